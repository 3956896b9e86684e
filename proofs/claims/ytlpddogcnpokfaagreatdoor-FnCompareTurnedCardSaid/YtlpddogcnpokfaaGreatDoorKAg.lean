/- Contracts of functions of the program, for the comparison of aggregations (part KAg). -/
import Derived.Test.YtlpddogcnpokfaaGreatDoorKCl
import Derived.Test.YtlpddogcnpokfaaGreatDoorKDf1
import Derived.Test.YtlpddogcnpokfaaGreatDoorKDf2
set_option linter.all false
namespace Go.Proofs.YtlpddogcnpokfaaGreatDoor
open Go.RowKit
set_option maxRecDepth 100000 in
set_option maxHeartbeats 2000000 in
theorem c59 (A1 A2 : Option Addr) (n1 n2 k1 k2 : Nat) (it iv : Bool) (xs ys : List (Dot × Sl5)) (w : World) (h1 : Rd w w.heap.size 6 A1 n1 k1 (xs.map dpI)) (h2 : Rd w w.heap.size 6 A2 n2 k2 (ys.map dpI)) (hp1 : ∀ q ∈ xs, PtR w w.heap.size q.1 q.2) (hp2 : ∀ q ∈ ys, PtR w w.heap.size q.1 q.2) (hn1 : n1 ≤ 1000) (hn2 : n2 ≤ 1000) (hT : Lib.Utf8Tabs 3 4 w) (hT4 : 4 < w.heap.size) :
 Calls Tryz.prog 59 #[.agg #[.slice A1 n1 k1], .agg #[.slice A2 n2 k2], .agg #[.bool it, .bool iv]] w fun e w' => ∃ A n c, e = .returned (.slice A n c) ∧ Rs w w' (.slice A n c) n ∧ n ≤ 10 ∧ (n = 0 ↔ diffSame (dpIEq it iv) xs ys = true) := by
 obtain ⟨W0, hW0⟩ : ∃ W0, W0 = ((w.alloc (.cells #[.slice A1 n1 k1] 123)).alloc (.cells #[.slice A2 n2 k2] 123)).alloc (.cells #[.bool it, .bool iv] 101) := ⟨_, rfl⟩
 have hb : Below w.heap.size w W0 := by rw [hW0]; exact (((Below.refl _ _).alloc (Nat.le_refl _) _).alloc (by simp) _).alloc (by simp; omega) _
 have x0 : W0.cell? ⟨w.heap.size, 0, none⟩ = some (.slice A1 n1 k1) := by rw [hW0]; simp [go_sem]
 have y0 : W0.cell? ⟨w.heap.size + 1, 0, none⟩ = some (.slice A2 n2 k2) := by rw [hW0]; simp [go_sem]
 have X0 := Lib.hid x0
 have Y0 := Lib.hid y0
 have hbc : W0.heap[w.heap.size + 1 + 1]? = some (.cells #[.bool it, .bool iv] 101 (0, 0)) := by
  rw [hW0]
  have := heap_alloc_new ((w.alloc (.cells #[.slice A1 n1 k1] 123)).alloc (.cells #[.slice A2 n2 k2] 123)) (.cells #[.bool it, .bool iv] 101)
  simpa using this
 have hbl : w.heap.size + 1 + 1 < W0.heap.size := (Array.getElem?_eq_some_iff.1 hbc).1
 have CD : ∀ W, Below W0.heap.size W0 W → Calls Tryz.prog 97 #[.slice A1 n1 k1, .slice A2 n2 k2, .func (.func 98) #[] #[], .func (.func 100) #[] #[.pointer (some ⟨w.heap.size + 1 + 1, 0, none⟩)]] W fun e w' => e = .returned (dres (diffSame (dpIEq it iv) xs ys)) ∧ Below W.heap.size W w' := fun W hW => by
  have hwW := below_then hb hb.size hW
  refine d97_100 dpI dpI_len dpI_one (dpIEq it iv) A1 A2 n1 n2 k1 k2 _ xs ys _ W ((h1.below hwW).more hwW.size) ((h2.below hwW).more hwW.size) hn1 hn2 fun q r hq hr V hV => ?_
  have hwV := below_then hwW hwW.size hV
  exact k100 q r it iv _ V (((hp1 q hq).below hwV).more hwV.size) (((hp2 r hr).below hwV).more hwV.size) (utf8_below hT hT4 hwV) (Nat.lt_of_lt_of_le hT4 hwV.size) ((hV.block _ (Nat.lt_of_lt_of_le hbl hW.size)).trans ((hW.block _ hbl).trans hbc))
 obtain ⟨D, hD⟩ : ∃ D : Bool, D = diffSame (dpIEq it iv) xs ys := ⟨_, rfl⟩
 rw [← hD] at CD
 have HD := Lib.hid hD
 have HCD := Lib.hid CD
 have HB := Lib.hid hb
 have HW := Lib.hid hW0
 have HR := Lib.hid (Rs.nil W0)
 have HN : Hid (0 ≤ 0) := Lib.hid (Nat.le_refl 0)
 clear hW0 hb hbc h1 h2 hp1 hp2 hT CD hD
 go_enter Tryz.func59, Tryz.ntmps59
 go_upto_region 1 with fail
 rw [← HW.out]
 clear HW
 cases D
 case true => (
 have CT : Hid (∀ W, Below W0.heap.size W0 W → Calls Tryz.prog 97 #[.slice A1 n1 k1, .slice A2 n2 k2, .func (.func 98) #[] #[], .func (.func 100) #[] #[.pointer (some ⟨w.heap.size + 1 + 1, 0, none⟩)]] W fun e w' => e = .returned (.string ⟨#[]⟩) ∧ Below W.heap.size W w') := HCD
 clear HCD
 go_wp2_with (go_at_call 97; (with_reducible refine (CT.out _ HR.out.bel).mono ?_); rintro e w1 ⟨rfl, hb1⟩; have HR := Lib.hid (HR.out.below hb1))
 go_ret
 obtain ⟨rA, rc, hv⟩ := HR.out.slice
 skip
 exact ⟨_, _, _, rfl, HR.out.outer HB.out, by have := HN.out; omega, by rw [← HD.out]; simp⟩)
 case false => (
 have CT : Hid (∀ W, Below W0.heap.size W0 W → Calls Tryz.prog 97 #[.slice A1 n1 k1, .slice A2 n2 k2, .func (.func 98) #[] #[], .func (.func 100) #[] #[.pointer (some ⟨w.heap.size + 1 + 1, 0, none⟩)]] W fun e w' => e = .returned (.string ⟨#[110, 111, 116, 32, 101, 113, 117, 97, 108]⟩) ∧ Below W.heap.size W w') := HCD
 clear HCD
 go_wp2_with (first | (go_at_call 97; (with_reducible refine (CT.out _ HR.out.bel).mono ?_); rintro e w1 ⟨rfl, hb1⟩; have HR := Lib.hid (HR.out.below hb1)) | (at_builtin; refine wpList_reason_new HR.out (by have := HN.out; omega) rfl _ _ rfl rfl rfl ?_ ?_; (first | rfl | omega); intro v1 w1 hr1))
 go_ret
 obtain ⟨rA, rc, hv⟩ := hr1.slice
 subst hv
 exact ⟨_, _, _, rfl, hr1.outer HB.out, by have := HN.out; omega, by rw [← HD.out]; simp⟩)
set_option maxRecDepth 100000 in
set_option maxHeartbeats 2000000 in
theorem c60 (A1 A2 : Option Addr) (n1 n2 k1 k2 : Nat) (it iv : Bool) (xs ys : List (Dot × Sl5)) (w : World) (h1 : Rd w w.heap.size 6 A1 n1 k1 (xs.map dpF)) (h2 : Rd w w.heap.size 6 A2 n2 k2 (ys.map dpF)) (hp1 : ∀ q ∈ xs, PtR w w.heap.size q.1 q.2) (hp2 : ∀ q ∈ ys, PtR w w.heap.size q.1 q.2) (hn1 : n1 ≤ 1000) (hn2 : n2 ≤ 1000) (hT : Lib.Utf8Tabs 3 4 w) (hT4 : 4 < w.heap.size) :
 Calls Tryz.prog 60 #[.agg #[.slice A1 n1 k1], .agg #[.slice A2 n2 k2], .agg #[.bool it, .bool iv]] w fun e w' => ∃ A n c, e = .returned (.slice A n c) ∧ Rs w w' (.slice A n c) n ∧ n ≤ 10 ∧ (n = 0 ↔ diffSame (dpFEq it iv) xs ys = true) := by
 obtain ⟨W0, hW0⟩ : ∃ W0, W0 = ((w.alloc (.cells #[.slice A1 n1 k1] 127)).alloc (.cells #[.slice A2 n2 k2] 127)).alloc (.cells #[.bool it, .bool iv] 101) := ⟨_, rfl⟩
 have hb : Below w.heap.size w W0 := by rw [hW0]; exact (((Below.refl _ _).alloc (Nat.le_refl _) _).alloc (by simp) _).alloc (by simp; omega) _
 have x0 : W0.cell? ⟨w.heap.size, 0, none⟩ = some (.slice A1 n1 k1) := by rw [hW0]; simp [go_sem]
 have y0 : W0.cell? ⟨w.heap.size + 1, 0, none⟩ = some (.slice A2 n2 k2) := by rw [hW0]; simp [go_sem]
 have X0 := Lib.hid x0
 have Y0 := Lib.hid y0
 have hbc : W0.heap[w.heap.size + 1 + 1]? = some (.cells #[.bool it, .bool iv] 101 (0, 0)) := by
  rw [hW0]
  have := heap_alloc_new ((w.alloc (.cells #[.slice A1 n1 k1] 127)).alloc (.cells #[.slice A2 n2 k2] 127)) (.cells #[.bool it, .bool iv] 101)
  simpa using this
 have hbl : w.heap.size + 1 + 1 < W0.heap.size := (Array.getElem?_eq_some_iff.1 hbc).1
 have CD : ∀ W, Below W0.heap.size W0 W → Calls Tryz.prog 102 #[.slice A1 n1 k1, .slice A2 n2 k2, .func (.func 103) #[] #[], .func (.func 104) #[] #[.pointer (some ⟨w.heap.size + 1 + 1, 0, none⟩)]] W fun e w' => e = .returned (dres (diffSame (dpFEq it iv) xs ys)) ∧ Below W.heap.size W w' := fun W hW => by
  have hwW := below_then hb hb.size hW
  refine d102_104 dpF dpF_len dpF_one (dpFEq it iv) A1 A2 n1 n2 k1 k2 _ xs ys _ W ((h1.below hwW).more hwW.size) ((h2.below hwW).more hwW.size) hn1 hn2 fun q r hq hr V hV => ?_
  have hwV := below_then hwW hwW.size hV
  exact k104 q r it iv _ V (((hp1 q hq).below hwV).more hwV.size) (((hp2 r hr).below hwV).more hwV.size) (utf8_below hT hT4 hwV) (Nat.lt_of_lt_of_le hT4 hwV.size) ((hV.block _ (Nat.lt_of_lt_of_le hbl hW.size)).trans ((hW.block _ hbl).trans hbc))
 obtain ⟨D, hD⟩ : ∃ D : Bool, D = diffSame (dpFEq it iv) xs ys := ⟨_, rfl⟩
 rw [← hD] at CD
 have HD := Lib.hid hD
 have HCD := Lib.hid CD
 have HB := Lib.hid hb
 have HW := Lib.hid hW0
 have HR := Lib.hid (Rs.nil W0)
 have HN : Hid (0 ≤ 0) := Lib.hid (Nat.le_refl 0)
 clear hW0 hb hbc h1 h2 hp1 hp2 hT CD hD
 go_enter Tryz.func60, Tryz.ntmps60
 go_upto_region 1 with fail
 rw [← HW.out]
 clear HW
 cases D
 case true => (
 have CT : Hid (∀ W, Below W0.heap.size W0 W → Calls Tryz.prog 102 #[.slice A1 n1 k1, .slice A2 n2 k2, .func (.func 103) #[] #[], .func (.func 104) #[] #[.pointer (some ⟨w.heap.size + 1 + 1, 0, none⟩)]] W fun e w' => e = .returned (.string ⟨#[]⟩) ∧ Below W.heap.size W w') := HCD
 clear HCD
 go_wp2_with (go_at_call 102; (with_reducible refine (CT.out _ HR.out.bel).mono ?_); rintro e w1 ⟨rfl, hb1⟩; have HR := Lib.hid (HR.out.below hb1))
 go_ret
 obtain ⟨rA, rc, hv⟩ := HR.out.slice
 skip
 exact ⟨_, _, _, rfl, HR.out.outer HB.out, by have := HN.out; omega, by rw [← HD.out]; simp⟩)
 case false => (
 have CT : Hid (∀ W, Below W0.heap.size W0 W → Calls Tryz.prog 102 #[.slice A1 n1 k1, .slice A2 n2 k2, .func (.func 103) #[] #[], .func (.func 104) #[] #[.pointer (some ⟨w.heap.size + 1 + 1, 0, none⟩)]] W fun e w' => e = .returned (.string ⟨#[110, 111, 116, 32, 101, 113, 117, 97, 108]⟩) ∧ Below W.heap.size W w') := HCD
 clear HCD
 go_wp2_with (first | (go_at_call 102; (with_reducible refine (CT.out _ HR.out.bel).mono ?_); rintro e w1 ⟨rfl, hb1⟩; have HR := Lib.hid (HR.out.below hb1)) | (at_builtin; refine wpList_reason_new HR.out (by have := HN.out; omega) rfl _ _ rfl rfl rfl ?_ ?_; (first | rfl | omega); intro v1 w1 hr1))
 go_ret
 obtain ⟨rA, rc, hv⟩ := hr1.slice
 subst hv
 exact ⟨_, _, _, rfl, hr1.outer HB.out, by have := HN.out; omega, by rw [← HD.out]; simp⟩)
set_option maxRecDepth 100000 in
set_option maxHeartbeats 2000000 in
theorem c61 (A1 A2 : Option Addr) (n1 n2 k1 k2 : Nat) (tp1 tp2 : Int) (mo1 mo2 : Bool) (it iv : Bool) (xs ys : List (Dot × Sl5)) (w : World) (h1 : Rd w w.heap.size 6 A1 n1 k1 (xs.map dpI)) (h2 : Rd w w.heap.size 6 A2 n2 k2 (ys.map dpI)) (hp1 : ∀ q ∈ xs, PtR w w.heap.size q.1 q.2) (hp2 : ∀ q ∈ ys, PtR w w.heap.size q.1 q.2) (hn1 : n1 ≤ 1000) (hn2 : n2 ≤ 1000) (hT : Lib.Utf8Tabs 3 4 w) (hT4 : 4 < w.heap.size) :
 Calls Tryz.prog 61 #[.agg #[.slice A1 n1 k1, .int .u8 tp1, .bool mo1], .agg #[.slice A2 n2 k2, .int .u8 tp2, .bool mo2], .agg #[.bool it, .bool iv]] w fun e w' => ∃ A n c, e = .returned (.slice A n c) ∧ Rs w w' (.slice A n c) n ∧ n ≤ 10 ∧ (n = 0 ↔ (((tp1 == tp2) && (mo1 == mo2)) && diffSame (dpIEq it iv) xs ys) = true) := by
 obtain ⟨W0, hW0⟩ : ∃ W0, W0 = ((w.alloc (.cells #[.slice A1 n1 k1, .int .u8 tp1, .bool mo1] 131)).alloc (.cells #[.slice A2 n2 k2, .int .u8 tp2, .bool mo2] 131)).alloc (.cells #[.bool it, .bool iv] 101) := ⟨_, rfl⟩
 have hb : Below w.heap.size w W0 := by rw [hW0]; exact (((Below.refl _ _).alloc (Nat.le_refl _) _).alloc (by simp) _).alloc (by simp; omega) _
 have x0 : W0.cell? ⟨w.heap.size, 0, none⟩ = some (.slice A1 n1 k1) := by rw [hW0]; simp [go_sem]
 have x1 : W0.cell? ⟨w.heap.size, 1, none⟩ = some (.int .u8 tp1) := by rw [hW0]; simp [go_sem]
 have x2 : W0.cell? ⟨w.heap.size, 2, none⟩ = some (.bool mo1) := by rw [hW0]; simp [go_sem]
 have y0 : W0.cell? ⟨w.heap.size + 1, 0, none⟩ = some (.slice A2 n2 k2) := by rw [hW0]; simp [go_sem]
 have y1 : W0.cell? ⟨w.heap.size + 1, 1, none⟩ = some (.int .u8 tp2) := by rw [hW0]; simp [go_sem]
 have y2 : W0.cell? ⟨w.heap.size + 1, 2, none⟩ = some (.bool mo2) := by rw [hW0]; simp [go_sem]
 have X0 := Lib.hid x0
 have X1 := Lib.hid x1
 have X2 := Lib.hid x2
 have Y0 := Lib.hid y0
 have Y1 := Lib.hid y1
 have Y2 := Lib.hid y2
 have hbc : W0.heap[w.heap.size + 1 + 1]? = some (.cells #[.bool it, .bool iv] 101 (0, 0)) := by
  rw [hW0]
  have := heap_alloc_new ((w.alloc (.cells #[.slice A1 n1 k1, .int .u8 tp1, .bool mo1] 131)).alloc (.cells #[.slice A2 n2 k2, .int .u8 tp2, .bool mo2] 131)) (.cells #[.bool it, .bool iv] 101)
  simpa using this
 have hbl : w.heap.size + 1 + 1 < W0.heap.size := (Array.getElem?_eq_some_iff.1 hbc).1
 have CD : ∀ W, Below W0.heap.size W0 W → Calls Tryz.prog 97 #[.slice A1 n1 k1, .slice A2 n2 k2, .func (.func 106) #[] #[], .func (.func 107) #[] #[.pointer (some ⟨w.heap.size + 1 + 1, 0, none⟩)]] W fun e w' => e = .returned (dres (diffSame (dpIEq it iv) xs ys)) ∧ Below W.heap.size W w' := fun W hW => by
  have hwW := below_then hb hb.size hW
  refine d97_107 dpI dpI_len dpI_one (dpIEq it iv) A1 A2 n1 n2 k1 k2 _ xs ys _ W ((h1.below hwW).more hwW.size) ((h2.below hwW).more hwW.size) hn1 hn2 fun q r hq hr V hV => ?_
  have hwV := below_then hwW hwW.size hV
  exact k107 q r it iv _ V (((hp1 q hq).below hwV).more hwV.size) (((hp2 r hr).below hwV).more hwV.size) (utf8_below hT hT4 hwV) (Nat.lt_of_lt_of_le hT4 hwV.size) ((hV.block _ (Nat.lt_of_lt_of_le hbl hW.size)).trans ((hW.block _ hbl).trans hbc))
 obtain ⟨L0, hL0⟩ : ∃ L : Bool, L = (tp1 == tp2) := ⟨_, rfl⟩
 have e0 : (tp1 != tp2) = !L0 := by rw [hL0]; rfl
 have HL0 := Lib.hid hL0
 obtain ⟨L1, hL1⟩ : ∃ L : Bool, L = (mo1 == mo2) := ⟨_, rfl⟩
 have e1 : (mo1 != mo2) = !L1 := by rw [hL1]; rfl
 have HL1 := Lib.hid hL1
 obtain ⟨D, hD⟩ : ∃ D : Bool, D = diffSame (dpIEq it iv) xs ys := ⟨_, rfl⟩
 rw [← hD] at CD
 have HD := Lib.hid hD
 have HCD := Lib.hid CD
 have HB := Lib.hid hb
 have HW := Lib.hid hW0
 have HR := Lib.hid (Rs.nil W0)
 have HN : Hid (0 ≤ 0) := Lib.hid (Nat.le_refl 0)
 clear hW0 hb hbc h1 h2 hp1 hp2 hT CD hD hL0 hL1
 go_enter Tryz.func61, Tryz.ntmps61
 go_upto_region 1 with fail
 rw [← HW.out]
 clear HW
 go_upto_if 12 with fail
 go_cut [6, 7] from 8 (fun s6 s7 wx => ∃ n, Rs W0 wx s6 n ∧ n ≤ 1 ∧ (n = 0 ↔ L0 = true))
 case first => (
 as_aux_lemma => (
 cases L0
 all_goals go_wp2_with (first | (go_at_call 57; refine (c57 _ (by decide) _ _ _).mono ?_; rintro e w2 ⟨⟨t2, rfl⟩, rfl⟩) | (at_builtin; refine wpList_reason_new HR.out (by have := HN.out; omega) rfl _ _ rfl rfl rfl ?_ ?_; (first | rfl | omega); intro v1 w1 hr1))
 all_goals go_meet
 · exact ⟨_, hr1, by have := HN.out; omega, by simp⟩
 · exact ⟨_, HR.out, by have := HN.out; omega, by simp⟩))
 case rest => (
 obtain ⟨n, hr, hn, hq⟩ := hcut
 obtain ⟨wk0, rfl⟩ : ∃ wk0 : World, wk0 = wc := ⟨_, rfl⟩
 have hbw := hr.bel
 replace x0 := cellk X0.out hbw
 replace x1 := cellk X1.out hbw
 replace x2 := cellk X2.out hbw
 replace y0 := cellk Y0.out hbw
 replace y1 := cellk Y1.out hbw
 replace y2 := cellk Y2.out hbw
 replace HR := Lib.hid hr
 have HQ := Lib.hid hq
 replace HN := Lib.hid hn
 clear hr hn hq hbw
 as_aux_lemma => (
 go_upto_if 27 with fail
 go_cut [6, 7] from 8 (fun s6 s7 wx => ∃ n, Rs W0 wx s6 n ∧ n ≤ 2 ∧ (n = 0 ↔ (L0 && L1) = true))
 case first => (
 as_aux_lemma => (
 have hl := HL1.out
 clear e1 HL1
 cases mo1 <;> cases mo2
 all_goals
  simp at hl
  subst hl
  go_wp2_with (first | (go_at_call 57; refine (c57 _ (by decide) _ _ _).mono ?_; rintro e w2 ⟨⟨t2, rfl⟩, rfl⟩) | (at_builtin; refine wpList_reason_new HR.out (by have := HN.out; omega) rfl _ _ rfl rfl rfl ?_ ?_; (first | rfl | omega); intro v1 w1 hr1))
  go_meet
  first
   | exact ⟨_, hr1, by have := HN.out; omega, by simp⟩
   | exact ⟨_, HR.out, by have := HN.out; omega, by rw [HQ.out]; simp⟩))
 case rest => (
 obtain ⟨n, hr, hn, hq⟩ := hcut
 obtain ⟨wk1, rfl⟩ : ∃ wk1 : World, wk1 = wc := ⟨_, rfl⟩
 have hbw := hr.bel
 replace x0 := cellk X0.out hbw
 replace x1 := cellk X1.out hbw
 replace x2 := cellk X2.out hbw
 replace y0 := cellk Y0.out hbw
 replace y1 := cellk Y1.out hbw
 replace y2 := cellk Y2.out hbw
 replace HR := Lib.hid hr
 have HQ := Lib.hid hq
 replace HN := Lib.hid hn
 clear hr hn hq hbw
 as_aux_lemma => (
 cases D
 case true => (
 have CT : Hid (∀ W, Below W0.heap.size W0 W → Calls Tryz.prog 97 #[.slice A1 n1 k1, .slice A2 n2 k2, .func (.func 106) #[] #[], .func (.func 107) #[] #[.pointer (some ⟨w.heap.size + 1 + 1, 0, none⟩)]] W fun e w' => e = .returned (.string ⟨#[]⟩) ∧ Below W.heap.size W w') := HCD
 clear HCD
 go_wp2_with (go_at_call 97; (with_reducible refine (CT.out _ HR.out.bel).mono ?_); rintro e w1 ⟨rfl, hb1⟩; have HR := Lib.hid (HR.out.below hb1))
 go_ret
 obtain ⟨rA, rc, hv⟩ := HR.out.slice
 subst hv
 exact ⟨_, _, _, rfl, HR.out.outer HB.out, by have := HN.out; omega, by rw [← HD.out, ← HL0.out, ← HL1.out]; rw [HQ.out]; simp⟩)
 case false => (
 have CT : Hid (∀ W, Below W0.heap.size W0 W → Calls Tryz.prog 97 #[.slice A1 n1 k1, .slice A2 n2 k2, .func (.func 106) #[] #[], .func (.func 107) #[] #[.pointer (some ⟨w.heap.size + 1 + 1, 0, none⟩)]] W fun e w' => e = .returned (.string ⟨#[110, 111, 116, 32, 101, 113, 117, 97, 108]⟩) ∧ Below W.heap.size W w') := HCD
 clear HCD
 go_wp2_with (first | (go_at_call 97; (with_reducible refine (CT.out _ HR.out.bel).mono ?_); rintro e w1 ⟨rfl, hb1⟩; have HR := Lib.hid (HR.out.below hb1)) | (at_builtin; refine wpList_reason_new HR.out (by have := HN.out; omega) rfl _ _ rfl rfl rfl ?_ ?_; (first | rfl | omega); intro v1 w1 hr1))
 go_ret
 obtain ⟨rA, rc, hv⟩ := hr1.slice
 subst hv
 exact ⟨_, _, _, rfl, hr1.outer HB.out, by have := HN.out; omega, by rw [← HD.out, ← HL0.out, ← HL1.out]; simp⟩)))))
set_option maxRecDepth 100000 in
set_option maxHeartbeats 2000000 in
theorem c62 (A1 A2 : Option Addr) (n1 n2 k1 k2 : Nat) (tp1 tp2 : Int) (mo1 mo2 : Bool) (it iv : Bool) (xs ys : List (Dot × Sl5)) (w : World) (h1 : Rd w w.heap.size 6 A1 n1 k1 (xs.map dpF)) (h2 : Rd w w.heap.size 6 A2 n2 k2 (ys.map dpF)) (hp1 : ∀ q ∈ xs, PtR w w.heap.size q.1 q.2) (hp2 : ∀ q ∈ ys, PtR w w.heap.size q.1 q.2) (hn1 : n1 ≤ 1000) (hn2 : n2 ≤ 1000) (hT : Lib.Utf8Tabs 3 4 w) (hT4 : 4 < w.heap.size) :
 Calls Tryz.prog 62 #[.agg #[.slice A1 n1 k1, .int .u8 tp1, .bool mo1], .agg #[.slice A2 n2 k2, .int .u8 tp2, .bool mo2], .agg #[.bool it, .bool iv]] w fun e w' => ∃ A n c, e = .returned (.slice A n c) ∧ Rs w w' (.slice A n c) n ∧ n ≤ 10 ∧ (n = 0 ↔ (((tp1 == tp2) && (mo1 == mo2)) && diffSame (dpFEq it iv) xs ys) = true) := by
 obtain ⟨W0, hW0⟩ : ∃ W0, W0 = ((w.alloc (.cells #[.slice A1 n1 k1, .int .u8 tp1, .bool mo1] 134)).alloc (.cells #[.slice A2 n2 k2, .int .u8 tp2, .bool mo2] 134)).alloc (.cells #[.bool it, .bool iv] 101) := ⟨_, rfl⟩
 have hb : Below w.heap.size w W0 := by rw [hW0]; exact (((Below.refl _ _).alloc (Nat.le_refl _) _).alloc (by simp) _).alloc (by simp; omega) _
 have x0 : W0.cell? ⟨w.heap.size, 0, none⟩ = some (.slice A1 n1 k1) := by rw [hW0]; simp [go_sem]
 have x1 : W0.cell? ⟨w.heap.size, 1, none⟩ = some (.int .u8 tp1) := by rw [hW0]; simp [go_sem]
 have x2 : W0.cell? ⟨w.heap.size, 2, none⟩ = some (.bool mo1) := by rw [hW0]; simp [go_sem]
 have y0 : W0.cell? ⟨w.heap.size + 1, 0, none⟩ = some (.slice A2 n2 k2) := by rw [hW0]; simp [go_sem]
 have y1 : W0.cell? ⟨w.heap.size + 1, 1, none⟩ = some (.int .u8 tp2) := by rw [hW0]; simp [go_sem]
 have y2 : W0.cell? ⟨w.heap.size + 1, 2, none⟩ = some (.bool mo2) := by rw [hW0]; simp [go_sem]
 have X0 := Lib.hid x0
 have X1 := Lib.hid x1
 have X2 := Lib.hid x2
 have Y0 := Lib.hid y0
 have Y1 := Lib.hid y1
 have Y2 := Lib.hid y2
 have hbc : W0.heap[w.heap.size + 1 + 1]? = some (.cells #[.bool it, .bool iv] 101 (0, 0)) := by
  rw [hW0]
  have := heap_alloc_new ((w.alloc (.cells #[.slice A1 n1 k1, .int .u8 tp1, .bool mo1] 134)).alloc (.cells #[.slice A2 n2 k2, .int .u8 tp2, .bool mo2] 134)) (.cells #[.bool it, .bool iv] 101)
  simpa using this
 have hbl : w.heap.size + 1 + 1 < W0.heap.size := (Array.getElem?_eq_some_iff.1 hbc).1
 have CD : ∀ W, Below W0.heap.size W0 W → Calls Tryz.prog 102 #[.slice A1 n1 k1, .slice A2 n2 k2, .func (.func 108) #[] #[], .func (.func 109) #[] #[.pointer (some ⟨w.heap.size + 1 + 1, 0, none⟩)]] W fun e w' => e = .returned (dres (diffSame (dpFEq it iv) xs ys)) ∧ Below W.heap.size W w' := fun W hW => by
  have hwW := below_then hb hb.size hW
  refine d102_109 dpF dpF_len dpF_one (dpFEq it iv) A1 A2 n1 n2 k1 k2 _ xs ys _ W ((h1.below hwW).more hwW.size) ((h2.below hwW).more hwW.size) hn1 hn2 fun q r hq hr V hV => ?_
  have hwV := below_then hwW hwW.size hV
  exact k109 q r it iv _ V (((hp1 q hq).below hwV).more hwV.size) (((hp2 r hr).below hwV).more hwV.size) (utf8_below hT hT4 hwV) (Nat.lt_of_lt_of_le hT4 hwV.size) ((hV.block _ (Nat.lt_of_lt_of_le hbl hW.size)).trans ((hW.block _ hbl).trans hbc))
 obtain ⟨L0, hL0⟩ : ∃ L : Bool, L = (tp1 == tp2) := ⟨_, rfl⟩
 have e0 : (tp1 != tp2) = !L0 := by rw [hL0]; rfl
 have HL0 := Lib.hid hL0
 obtain ⟨L1, hL1⟩ : ∃ L : Bool, L = (mo1 == mo2) := ⟨_, rfl⟩
 have e1 : (mo1 != mo2) = !L1 := by rw [hL1]; rfl
 have HL1 := Lib.hid hL1
 obtain ⟨D, hD⟩ : ∃ D : Bool, D = diffSame (dpFEq it iv) xs ys := ⟨_, rfl⟩
 rw [← hD] at CD
 have HD := Lib.hid hD
 have HCD := Lib.hid CD
 have HB := Lib.hid hb
 have HW := Lib.hid hW0
 have HR := Lib.hid (Rs.nil W0)
 have HN : Hid (0 ≤ 0) := Lib.hid (Nat.le_refl 0)
 clear hW0 hb hbc h1 h2 hp1 hp2 hT CD hD hL0 hL1
 go_enter Tryz.func62, Tryz.ntmps62
 go_upto_region 1 with fail
 rw [← HW.out]
 clear HW
 go_upto_if 12 with fail
 go_cut [6, 7] from 8 (fun s6 s7 wx => ∃ n, Rs W0 wx s6 n ∧ n ≤ 1 ∧ (n = 0 ↔ L0 = true))
 case first => (
 as_aux_lemma => (
 cases L0
 all_goals go_wp2_with (first | (go_at_call 57; refine (c57 _ (by decide) _ _ _).mono ?_; rintro e w2 ⟨⟨t2, rfl⟩, rfl⟩) | (at_builtin; refine wpList_reason_new HR.out (by have := HN.out; omega) rfl _ _ rfl rfl rfl ?_ ?_; (first | rfl | omega); intro v1 w1 hr1))
 all_goals go_meet
 · exact ⟨_, hr1, by have := HN.out; omega, by simp⟩
 · exact ⟨_, HR.out, by have := HN.out; omega, by simp⟩))
 case rest => (
 obtain ⟨n, hr, hn, hq⟩ := hcut
 obtain ⟨wk0, rfl⟩ : ∃ wk0 : World, wk0 = wc := ⟨_, rfl⟩
 have hbw := hr.bel
 replace x0 := cellk X0.out hbw
 replace x1 := cellk X1.out hbw
 replace x2 := cellk X2.out hbw
 replace y0 := cellk Y0.out hbw
 replace y1 := cellk Y1.out hbw
 replace y2 := cellk Y2.out hbw
 replace HR := Lib.hid hr
 have HQ := Lib.hid hq
 replace HN := Lib.hid hn
 clear hr hn hq hbw
 as_aux_lemma => (
 go_upto_if 27 with fail
 go_cut [6, 7] from 8 (fun s6 s7 wx => ∃ n, Rs W0 wx s6 n ∧ n ≤ 2 ∧ (n = 0 ↔ (L0 && L1) = true))
 case first => (
 as_aux_lemma => (
 have hl := HL1.out
 clear e1 HL1
 cases mo1 <;> cases mo2
 all_goals
  simp at hl
  subst hl
  go_wp2_with (first | (go_at_call 57; refine (c57 _ (by decide) _ _ _).mono ?_; rintro e w2 ⟨⟨t2, rfl⟩, rfl⟩) | (at_builtin; refine wpList_reason_new HR.out (by have := HN.out; omega) rfl _ _ rfl rfl rfl ?_ ?_; (first | rfl | omega); intro v1 w1 hr1))
  go_meet
  first
   | exact ⟨_, hr1, by have := HN.out; omega, by simp⟩
   | exact ⟨_, HR.out, by have := HN.out; omega, by rw [HQ.out]; simp⟩))
 case rest => (
 obtain ⟨n, hr, hn, hq⟩ := hcut
 obtain ⟨wk1, rfl⟩ : ∃ wk1 : World, wk1 = wc := ⟨_, rfl⟩
 have hbw := hr.bel
 replace x0 := cellk X0.out hbw
 replace x1 := cellk X1.out hbw
 replace x2 := cellk X2.out hbw
 replace y0 := cellk Y0.out hbw
 replace y1 := cellk Y1.out hbw
 replace y2 := cellk Y2.out hbw
 replace HR := Lib.hid hr
 have HQ := Lib.hid hq
 replace HN := Lib.hid hn
 clear hr hn hq hbw
 as_aux_lemma => (
 cases D
 case true => (
 have CT : Hid (∀ W, Below W0.heap.size W0 W → Calls Tryz.prog 102 #[.slice A1 n1 k1, .slice A2 n2 k2, .func (.func 108) #[] #[], .func (.func 109) #[] #[.pointer (some ⟨w.heap.size + 1 + 1, 0, none⟩)]] W fun e w' => e = .returned (.string ⟨#[]⟩) ∧ Below W.heap.size W w') := HCD
 clear HCD
 go_wp2_with (go_at_call 102; (with_reducible refine (CT.out _ HR.out.bel).mono ?_); rintro e w1 ⟨rfl, hb1⟩; have HR := Lib.hid (HR.out.below hb1))
 go_ret
 obtain ⟨rA, rc, hv⟩ := HR.out.slice
 subst hv
 exact ⟨_, _, _, rfl, HR.out.outer HB.out, by have := HN.out; omega, by rw [← HD.out, ← HL0.out, ← HL1.out]; rw [HQ.out]; simp⟩)
 case false => (
 have CT : Hid (∀ W, Below W0.heap.size W0 W → Calls Tryz.prog 102 #[.slice A1 n1 k1, .slice A2 n2 k2, .func (.func 108) #[] #[], .func (.func 109) #[] #[.pointer (some ⟨w.heap.size + 1 + 1, 0, none⟩)]] W fun e w' => e = .returned (.string ⟨#[110, 111, 116, 32, 101, 113, 117, 97, 108]⟩) ∧ Below W.heap.size W w') := HCD
 clear HCD
 go_wp2_with (first | (go_at_call 102; (with_reducible refine (CT.out _ HR.out.bel).mono ?_); rintro e w1 ⟨rfl, hb1⟩; have HR := Lib.hid (HR.out.below hb1)) | (at_builtin; refine wpList_reason_new HR.out (by have := HN.out; omega) rfl _ _ rfl rfl rfl ?_ ?_; (first | rfl | omega); intro v1 w1 hr1))
 go_ret
 obtain ⟨rA, rc, hv⟩ := hr1.slice
 subst hv
 exact ⟨_, _, _, rfl, hr1.outer HB.out, by have := HN.out; omega, by rw [← HD.out, ← HL0.out, ← HL1.out]; simp⟩)))))
set_option maxRecDepth 100000 in
set_option maxHeartbeats 2000000 in
theorem c63 (A1 A2 : Option Addr) (n1 n2 k1 k2 : Nat) (tp1 tp2 : Int) (it iv : Bool) (xs ys : List (Dot × Sl5)) (w : World) (h1 : Rd w w.heap.size 13 A1 n1 k1 (xs.map hpI)) (h2 : Rd w w.heap.size 13 A2 n2 k2 (ys.map hpI)) (hp1 : ∀ q ∈ xs, PtR w w.heap.size q.1 q.2) (hp2 : ∀ q ∈ ys, PtR w w.heap.size q.1 q.2) (hn1 : n1 ≤ 1000) (hn2 : n2 ≤ 1000) (hT : Lib.Utf8Tabs 3 4 w) (hT4 : 4 < w.heap.size) :
 Calls Tryz.prog 63 #[.agg #[.slice A1 n1 k1, .int .u8 tp1], .agg #[.slice A2 n2 k2, .int .u8 tp2], .agg #[.bool it, .bool iv]] w fun e w' => ∃ A n c, e = .returned (.slice A n c) ∧ Rs w w' (.slice A n c) n ∧ n ≤ 10 ∧ (n = 0 ↔ ((tp1 == tp2) && diffSame (hpIEq it iv) xs ys) = true) := by
 obtain ⟨W0, hW0⟩ : ∃ W0, W0 = ((w.alloc (.cells #[.slice A1 n1 k1, .int .u8 tp1] 138)).alloc (.cells #[.slice A2 n2 k2, .int .u8 tp2] 138)).alloc (.cells #[.bool it, .bool iv] 101) := ⟨_, rfl⟩
 have hb : Below w.heap.size w W0 := by rw [hW0]; exact (((Below.refl _ _).alloc (Nat.le_refl _) _).alloc (by simp) _).alloc (by simp; omega) _
 have x0 : W0.cell? ⟨w.heap.size, 0, none⟩ = some (.slice A1 n1 k1) := by rw [hW0]; simp [go_sem]
 have x1 : W0.cell? ⟨w.heap.size, 1, none⟩ = some (.int .u8 tp1) := by rw [hW0]; simp [go_sem]
 have y0 : W0.cell? ⟨w.heap.size + 1, 0, none⟩ = some (.slice A2 n2 k2) := by rw [hW0]; simp [go_sem]
 have y1 : W0.cell? ⟨w.heap.size + 1, 1, none⟩ = some (.int .u8 tp2) := by rw [hW0]; simp [go_sem]
 have X0 := Lib.hid x0
 have X1 := Lib.hid x1
 have Y0 := Lib.hid y0
 have Y1 := Lib.hid y1
 have hbc : W0.heap[w.heap.size + 1 + 1]? = some (.cells #[.bool it, .bool iv] 101 (0, 0)) := by
  rw [hW0]
  have := heap_alloc_new ((w.alloc (.cells #[.slice A1 n1 k1, .int .u8 tp1] 138)).alloc (.cells #[.slice A2 n2 k2, .int .u8 tp2] 138)) (.cells #[.bool it, .bool iv] 101)
  simpa using this
 have hbl : w.heap.size + 1 + 1 < W0.heap.size := (Array.getElem?_eq_some_iff.1 hbc).1
 have CD : ∀ W, Below W0.heap.size W0 W → Calls Tryz.prog 110 #[.slice A1 n1 k1, .slice A2 n2 k2, .func (.func 111) #[] #[], .func (.func 112) #[] #[.pointer (some ⟨w.heap.size + 1 + 1, 0, none⟩)]] W fun e w' => e = .returned (dres (diffSame (hpIEq it iv) xs ys)) ∧ Below W.heap.size W w' := fun W hW => by
  have hwW := below_then hb hb.size hW
  refine d110_112 hpI hpI_len hpI_one (hpIEq it iv) A1 A2 n1 n2 k1 k2 _ xs ys _ W ((h1.below hwW).more hwW.size) ((h2.below hwW).more hwW.size) hn1 hn2 fun q r hq hr V hV => ?_
  have hwV := below_then hwW hwW.size hV
  exact k112 q r it iv _ V (((hp1 q hq).below hwV).more hwV.size) (((hp2 r hr).below hwV).more hwV.size) (utf8_below hT hT4 hwV) (Nat.lt_of_lt_of_le hT4 hwV.size) ((hV.block _ (Nat.lt_of_lt_of_le hbl hW.size)).trans ((hW.block _ hbl).trans hbc))
 obtain ⟨L0, hL0⟩ : ∃ L : Bool, L = (tp1 == tp2) := ⟨_, rfl⟩
 have e0 : (tp1 != tp2) = !L0 := by rw [hL0]; rfl
 have HL0 := Lib.hid hL0
 obtain ⟨D, hD⟩ : ∃ D : Bool, D = diffSame (hpIEq it iv) xs ys := ⟨_, rfl⟩
 rw [← hD] at CD
 have HD := Lib.hid hD
 have HCD := Lib.hid CD
 have HB := Lib.hid hb
 have HW := Lib.hid hW0
 have HR := Lib.hid (Rs.nil W0)
 have HN : Hid (0 ≤ 0) := Lib.hid (Nat.le_refl 0)
 clear hW0 hb hbc h1 h2 hp1 hp2 hT CD hD hL0
 go_enter Tryz.func63, Tryz.ntmps63
 go_upto_region 1 with fail
 rw [← HW.out]
 clear HW
 go_upto_if 12 with fail
 go_cut [6, 7] from 8 (fun s6 s7 wx => ∃ n, Rs W0 wx s6 n ∧ n ≤ 1 ∧ (n = 0 ↔ L0 = true))
 case first => (
 as_aux_lemma => (
 cases L0
 all_goals go_wp2_with (first | (go_at_call 57; refine (c57 _ (by decide) _ _ _).mono ?_; rintro e w2 ⟨⟨t2, rfl⟩, rfl⟩) | (at_builtin; refine wpList_reason_new HR.out (by have := HN.out; omega) rfl _ _ rfl rfl rfl ?_ ?_; (first | rfl | omega); intro v1 w1 hr1))
 all_goals go_meet
 · exact ⟨_, hr1, by have := HN.out; omega, by simp⟩
 · exact ⟨_, HR.out, by have := HN.out; omega, by simp⟩))
 case rest => (
 obtain ⟨n, hr, hn, hq⟩ := hcut
 obtain ⟨wk0, rfl⟩ : ∃ wk0 : World, wk0 = wc := ⟨_, rfl⟩
 have hbw := hr.bel
 replace x0 := cellk X0.out hbw
 replace x1 := cellk X1.out hbw
 replace y0 := cellk Y0.out hbw
 replace y1 := cellk Y1.out hbw
 replace HR := Lib.hid hr
 have HQ := Lib.hid hq
 replace HN := Lib.hid hn
 clear hr hn hq hbw
 as_aux_lemma => (
 cases D
 case true => (
 have CT : Hid (∀ W, Below W0.heap.size W0 W → Calls Tryz.prog 110 #[.slice A1 n1 k1, .slice A2 n2 k2, .func (.func 111) #[] #[], .func (.func 112) #[] #[.pointer (some ⟨w.heap.size + 1 + 1, 0, none⟩)]] W fun e w' => e = .returned (.string ⟨#[]⟩) ∧ Below W.heap.size W w') := HCD
 clear HCD
 go_wp2_with (go_at_call 110; (with_reducible refine (CT.out _ HR.out.bel).mono ?_); rintro e w1 ⟨rfl, hb1⟩; have HR := Lib.hid (HR.out.below hb1))
 go_ret
 obtain ⟨rA, rc, hv⟩ := HR.out.slice
 subst hv
 exact ⟨_, _, _, rfl, HR.out.outer HB.out, by have := HN.out; omega, by rw [← HD.out, ← HL0.out]; rw [HQ.out]; simp⟩)
 case false => (
 have CT : Hid (∀ W, Below W0.heap.size W0 W → Calls Tryz.prog 110 #[.slice A1 n1 k1, .slice A2 n2 k2, .func (.func 111) #[] #[], .func (.func 112) #[] #[.pointer (some ⟨w.heap.size + 1 + 1, 0, none⟩)]] W fun e w' => e = .returned (.string ⟨#[110, 111, 116, 32, 101, 113, 117, 97, 108]⟩) ∧ Below W.heap.size W w') := HCD
 clear HCD
 go_wp2_with (first | (go_at_call 110; (with_reducible refine (CT.out _ HR.out.bel).mono ?_); rintro e w1 ⟨rfl, hb1⟩; have HR := Lib.hid (HR.out.below hb1)) | (at_builtin; refine wpList_reason_new HR.out (by have := HN.out; omega) rfl _ _ rfl rfl rfl ?_ ?_; (first | rfl | omega); intro v1 w1 hr1))
 go_ret
 obtain ⟨rA, rc, hv⟩ := hr1.slice
 subst hv
 exact ⟨_, _, _, rfl, hr1.outer HB.out, by have := HN.out; omega, by rw [← HD.out, ← HL0.out]; simp⟩)))
set_option maxRecDepth 100000 in
set_option maxHeartbeats 2000000 in
theorem c64 (A1 A2 : Option Addr) (n1 n2 k1 k2 : Nat) (tp1 tp2 : Int) (it iv : Bool) (xs ys : List (Dot × Sl5)) (w : World) (h1 : Rd w w.heap.size 13 A1 n1 k1 (xs.map hpF)) (h2 : Rd w w.heap.size 13 A2 n2 k2 (ys.map hpF)) (hp1 : ∀ q ∈ xs, PtR w w.heap.size q.1 q.2) (hp2 : ∀ q ∈ ys, PtR w w.heap.size q.1 q.2) (hn1 : n1 ≤ 1000) (hn2 : n2 ≤ 1000) (hT : Lib.Utf8Tabs 3 4 w) (hT4 : 4 < w.heap.size) :
 Calls Tryz.prog 64 #[.agg #[.slice A1 n1 k1, .int .u8 tp1], .agg #[.slice A2 n2 k2, .int .u8 tp2], .agg #[.bool it, .bool iv]] w fun e w' => ∃ A n c, e = .returned (.slice A n c) ∧ Rs w w' (.slice A n c) n ∧ n ≤ 10 ∧ (n = 0 ↔ ((tp1 == tp2) && diffSame (hpFEq it iv) xs ys) = true) := by
 obtain ⟨W0, hW0⟩ : ∃ W0, W0 = ((w.alloc (.cells #[.slice A1 n1 k1, .int .u8 tp1] 142)).alloc (.cells #[.slice A2 n2 k2, .int .u8 tp2] 142)).alloc (.cells #[.bool it, .bool iv] 101) := ⟨_, rfl⟩
 have hb : Below w.heap.size w W0 := by rw [hW0]; exact (((Below.refl _ _).alloc (Nat.le_refl _) _).alloc (by simp) _).alloc (by simp; omega) _
 have x0 : W0.cell? ⟨w.heap.size, 0, none⟩ = some (.slice A1 n1 k1) := by rw [hW0]; simp [go_sem]
 have x1 : W0.cell? ⟨w.heap.size, 1, none⟩ = some (.int .u8 tp1) := by rw [hW0]; simp [go_sem]
 have y0 : W0.cell? ⟨w.heap.size + 1, 0, none⟩ = some (.slice A2 n2 k2) := by rw [hW0]; simp [go_sem]
 have y1 : W0.cell? ⟨w.heap.size + 1, 1, none⟩ = some (.int .u8 tp2) := by rw [hW0]; simp [go_sem]
 have X0 := Lib.hid x0
 have X1 := Lib.hid x1
 have Y0 := Lib.hid y0
 have Y1 := Lib.hid y1
 have hbc : W0.heap[w.heap.size + 1 + 1]? = some (.cells #[.bool it, .bool iv] 101 (0, 0)) := by
  rw [hW0]
  have := heap_alloc_new ((w.alloc (.cells #[.slice A1 n1 k1, .int .u8 tp1] 142)).alloc (.cells #[.slice A2 n2 k2, .int .u8 tp2] 142)) (.cells #[.bool it, .bool iv] 101)
  simpa using this
 have hbl : w.heap.size + 1 + 1 < W0.heap.size := (Array.getElem?_eq_some_iff.1 hbc).1
 have CD : ∀ W, Below W0.heap.size W0 W → Calls Tryz.prog 114 #[.slice A1 n1 k1, .slice A2 n2 k2, .func (.func 115) #[] #[], .func (.func 116) #[] #[.pointer (some ⟨w.heap.size + 1 + 1, 0, none⟩)]] W fun e w' => e = .returned (dres (diffSame (hpFEq it iv) xs ys)) ∧ Below W.heap.size W w' := fun W hW => by
  have hwW := below_then hb hb.size hW
  refine d114_116 hpF hpF_len hpF_one (hpFEq it iv) A1 A2 n1 n2 k1 k2 _ xs ys _ W ((h1.below hwW).more hwW.size) ((h2.below hwW).more hwW.size) hn1 hn2 fun q r hq hr V hV => ?_
  have hwV := below_then hwW hwW.size hV
  exact k116 q r it iv _ V (((hp1 q hq).below hwV).more hwV.size) (((hp2 r hr).below hwV).more hwV.size) (utf8_below hT hT4 hwV) (Nat.lt_of_lt_of_le hT4 hwV.size) ((hV.block _ (Nat.lt_of_lt_of_le hbl hW.size)).trans ((hW.block _ hbl).trans hbc))
 obtain ⟨L0, hL0⟩ : ∃ L : Bool, L = (tp1 == tp2) := ⟨_, rfl⟩
 have e0 : (tp1 != tp2) = !L0 := by rw [hL0]; rfl
 have HL0 := Lib.hid hL0
 obtain ⟨D, hD⟩ : ∃ D : Bool, D = diffSame (hpFEq it iv) xs ys := ⟨_, rfl⟩
 rw [← hD] at CD
 have HD := Lib.hid hD
 have HCD := Lib.hid CD
 have HB := Lib.hid hb
 have HW := Lib.hid hW0
 have HR := Lib.hid (Rs.nil W0)
 have HN : Hid (0 ≤ 0) := Lib.hid (Nat.le_refl 0)
 clear hW0 hb hbc h1 h2 hp1 hp2 hT CD hD hL0
 go_enter Tryz.func64, Tryz.ntmps64
 go_upto_region 1 with fail
 rw [← HW.out]
 clear HW
 go_upto_if 12 with fail
 go_cut [6, 7] from 8 (fun s6 s7 wx => ∃ n, Rs W0 wx s6 n ∧ n ≤ 1 ∧ (n = 0 ↔ L0 = true))
 case first => (
 as_aux_lemma => (
 cases L0
 all_goals go_wp2_with (first | (go_at_call 57; refine (c57 _ (by decide) _ _ _).mono ?_; rintro e w2 ⟨⟨t2, rfl⟩, rfl⟩) | (at_builtin; refine wpList_reason_new HR.out (by have := HN.out; omega) rfl _ _ rfl rfl rfl ?_ ?_; (first | rfl | omega); intro v1 w1 hr1))
 all_goals go_meet
 · exact ⟨_, hr1, by have := HN.out; omega, by simp⟩
 · exact ⟨_, HR.out, by have := HN.out; omega, by simp⟩))
 case rest => (
 obtain ⟨n, hr, hn, hq⟩ := hcut
 obtain ⟨wk0, rfl⟩ : ∃ wk0 : World, wk0 = wc := ⟨_, rfl⟩
 have hbw := hr.bel
 replace x0 := cellk X0.out hbw
 replace x1 := cellk X1.out hbw
 replace y0 := cellk Y0.out hbw
 replace y1 := cellk Y1.out hbw
 replace HR := Lib.hid hr
 have HQ := Lib.hid hq
 replace HN := Lib.hid hn
 clear hr hn hq hbw
 as_aux_lemma => (
 cases D
 case true => (
 have CT : Hid (∀ W, Below W0.heap.size W0 W → Calls Tryz.prog 114 #[.slice A1 n1 k1, .slice A2 n2 k2, .func (.func 115) #[] #[], .func (.func 116) #[] #[.pointer (some ⟨w.heap.size + 1 + 1, 0, none⟩)]] W fun e w' => e = .returned (.string ⟨#[]⟩) ∧ Below W.heap.size W w') := HCD
 clear HCD
 go_wp2_with (go_at_call 114; (with_reducible refine (CT.out _ HR.out.bel).mono ?_); rintro e w1 ⟨rfl, hb1⟩; have HR := Lib.hid (HR.out.below hb1))
 go_ret
 obtain ⟨rA, rc, hv⟩ := HR.out.slice
 subst hv
 exact ⟨_, _, _, rfl, HR.out.outer HB.out, by have := HN.out; omega, by rw [← HD.out, ← HL0.out]; rw [HQ.out]; simp⟩)
 case false => (
 have CT : Hid (∀ W, Below W0.heap.size W0 W → Calls Tryz.prog 114 #[.slice A1 n1 k1, .slice A2 n2 k2, .func (.func 115) #[] #[], .func (.func 116) #[] #[.pointer (some ⟨w.heap.size + 1 + 1, 0, none⟩)]] W fun e w' => e = .returned (.string ⟨#[110, 111, 116, 32, 101, 113, 117, 97, 108]⟩) ∧ Below W.heap.size W w') := HCD
 clear HCD
 go_wp2_with (first | (go_at_call 114; (with_reducible refine (CT.out _ HR.out.bel).mono ?_); rintro e w1 ⟨rfl, hb1⟩; have HR := Lib.hid (HR.out.below hb1)) | (at_builtin; refine wpList_reason_new HR.out (by have := HN.out; omega) rfl _ _ rfl rfl rfl ?_ ?_; (first | rfl | omega); intro v1 w1 hr1))
 go_ret
 obtain ⟨rA, rc, hv⟩ := hr1.slice
 subst hv
 exact ⟨_, _, _, rfl, hr1.outer HB.out, by have := HN.out; omega, by rw [← HD.out, ← HL0.out]; simp⟩)))
set_option maxRecDepth 100000 in
set_option maxHeartbeats 2000000 in
theorem c65 (A1 A2 : Option Addr) (n1 n2 k1 k2 : Nat) (tp1 tp2 : Int) (it iv : Bool) (xs ys : List (Dot × Sl5)) (w : World) (h1 : Rd w w.heap.size 18 A1 n1 k1 (xs.map epI)) (h2 : Rd w w.heap.size 18 A2 n2 k2 (ys.map epI)) (hp1 : ∀ q ∈ xs, PtR w w.heap.size q.1 q.2) (hp2 : ∀ q ∈ ys, PtR w w.heap.size q.1 q.2) (hn1 : n1 ≤ 1000) (hn2 : n2 ≤ 1000) (hT : Lib.Utf8Tabs 3 4 w) (hT4 : 4 < w.heap.size) :
 Calls Tryz.prog 65 #[.agg #[.slice A1 n1 k1, .int .u8 tp1], .agg #[.slice A2 n2 k2, .int .u8 tp2], .agg #[.bool it, .bool iv]] w fun e w' => ∃ A n c, e = .returned (.slice A n c) ∧ Rs w w' (.slice A n c) n ∧ n ≤ 10 ∧ (n = 0 ↔ ((tp1 == tp2) && diffSame (epIEq it iv) xs ys) = true) := by
 obtain ⟨W0, hW0⟩ : ∃ W0, W0 = ((w.alloc (.cells #[.slice A1 n1 k1, .int .u8 tp1] 146)).alloc (.cells #[.slice A2 n2 k2, .int .u8 tp2] 146)).alloc (.cells #[.bool it, .bool iv] 101) := ⟨_, rfl⟩
 have hb : Below w.heap.size w W0 := by rw [hW0]; exact (((Below.refl _ _).alloc (Nat.le_refl _) _).alloc (by simp) _).alloc (by simp; omega) _
 have x0 : W0.cell? ⟨w.heap.size, 0, none⟩ = some (.slice A1 n1 k1) := by rw [hW0]; simp [go_sem]
 have x1 : W0.cell? ⟨w.heap.size, 1, none⟩ = some (.int .u8 tp1) := by rw [hW0]; simp [go_sem]
 have y0 : W0.cell? ⟨w.heap.size + 1, 0, none⟩ = some (.slice A2 n2 k2) := by rw [hW0]; simp [go_sem]
 have y1 : W0.cell? ⟨w.heap.size + 1, 1, none⟩ = some (.int .u8 tp2) := by rw [hW0]; simp [go_sem]
 have X0 := Lib.hid x0
 have X1 := Lib.hid x1
 have Y0 := Lib.hid y0
 have Y1 := Lib.hid y1
 have hbc : W0.heap[w.heap.size + 1 + 1]? = some (.cells #[.bool it, .bool iv] 101 (0, 0)) := by
  rw [hW0]
  have := heap_alloc_new ((w.alloc (.cells #[.slice A1 n1 k1, .int .u8 tp1] 146)).alloc (.cells #[.slice A2 n2 k2, .int .u8 tp2] 146)) (.cells #[.bool it, .bool iv] 101)
  simpa using this
 have hbl : w.heap.size + 1 + 1 < W0.heap.size := (Array.getElem?_eq_some_iff.1 hbc).1
 have CD : ∀ W, Below W0.heap.size W0 W → Calls Tryz.prog 118 #[.slice A1 n1 k1, .slice A2 n2 k2, .func (.func 119) #[] #[], .func (.func 120) #[] #[.pointer (some ⟨w.heap.size + 1 + 1, 0, none⟩)]] W fun e w' => e = .returned (dres (diffSame (epIEq it iv) xs ys)) ∧ Below W.heap.size W w' := fun W hW => by
  have hwW := below_then hb hb.size hW
  refine d118_120 epI epI_len epI_one (epIEq it iv) A1 A2 n1 n2 k1 k2 _ xs ys _ W ((h1.below hwW).more hwW.size) ((h2.below hwW).more hwW.size) hn1 hn2 fun q r hq hr V hV => ?_
  have hwV := below_then hwW hwW.size hV
  exact k120 q r it iv _ V (((hp1 q hq).below hwV).more hwV.size) (((hp2 r hr).below hwV).more hwV.size) (utf8_below hT hT4 hwV) (Nat.lt_of_lt_of_le hT4 hwV.size) ((hV.block _ (Nat.lt_of_lt_of_le hbl hW.size)).trans ((hW.block _ hbl).trans hbc))
 obtain ⟨L0, hL0⟩ : ∃ L : Bool, L = (tp1 == tp2) := ⟨_, rfl⟩
 have e0 : (tp1 != tp2) = !L0 := by rw [hL0]; rfl
 have HL0 := Lib.hid hL0
 obtain ⟨D, hD⟩ : ∃ D : Bool, D = diffSame (epIEq it iv) xs ys := ⟨_, rfl⟩
 rw [← hD] at CD
 have HD := Lib.hid hD
 have HCD := Lib.hid CD
 have HB := Lib.hid hb
 have HW := Lib.hid hW0
 have HR := Lib.hid (Rs.nil W0)
 have HN : Hid (0 ≤ 0) := Lib.hid (Nat.le_refl 0)
 clear hW0 hb hbc h1 h2 hp1 hp2 hT CD hD hL0
 go_enter Tryz.func65, Tryz.ntmps65
 go_upto_region 1 with fail
 rw [← HW.out]
 clear HW
 go_upto_if 12 with fail
 go_cut [6, 7] from 8 (fun s6 s7 wx => ∃ n, Rs W0 wx s6 n ∧ n ≤ 1 ∧ (n = 0 ↔ L0 = true))
 case first => (
 as_aux_lemma => (
 cases L0
 all_goals go_wp2_with (first | (go_at_call 57; refine (c57 _ (by decide) _ _ _).mono ?_; rintro e w2 ⟨⟨t2, rfl⟩, rfl⟩) | (at_builtin; refine wpList_reason_new HR.out (by have := HN.out; omega) rfl _ _ rfl rfl rfl ?_ ?_; (first | rfl | omega); intro v1 w1 hr1))
 all_goals go_meet
 · exact ⟨_, hr1, by have := HN.out; omega, by simp⟩
 · exact ⟨_, HR.out, by have := HN.out; omega, by simp⟩))
 case rest => (
 obtain ⟨n, hr, hn, hq⟩ := hcut
 obtain ⟨wk0, rfl⟩ : ∃ wk0 : World, wk0 = wc := ⟨_, rfl⟩
 have hbw := hr.bel
 replace x0 := cellk X0.out hbw
 replace x1 := cellk X1.out hbw
 replace y0 := cellk Y0.out hbw
 replace y1 := cellk Y1.out hbw
 replace HR := Lib.hid hr
 have HQ := Lib.hid hq
 replace HN := Lib.hid hn
 clear hr hn hq hbw
 as_aux_lemma => (
 cases D
 case true => (
 have CT : Hid (∀ W, Below W0.heap.size W0 W → Calls Tryz.prog 118 #[.slice A1 n1 k1, .slice A2 n2 k2, .func (.func 119) #[] #[], .func (.func 120) #[] #[.pointer (some ⟨w.heap.size + 1 + 1, 0, none⟩)]] W fun e w' => e = .returned (.string ⟨#[]⟩) ∧ Below W.heap.size W w') := HCD
 clear HCD
 go_wp2_with (go_at_call 118; (with_reducible refine (CT.out _ HR.out.bel).mono ?_); rintro e w1 ⟨rfl, hb1⟩; have HR := Lib.hid (HR.out.below hb1))
 go_ret
 obtain ⟨rA, rc, hv⟩ := HR.out.slice
 subst hv
 exact ⟨_, _, _, rfl, HR.out.outer HB.out, by have := HN.out; omega, by rw [← HD.out, ← HL0.out]; rw [HQ.out]; simp⟩)
 case false => (
 have CT : Hid (∀ W, Below W0.heap.size W0 W → Calls Tryz.prog 118 #[.slice A1 n1 k1, .slice A2 n2 k2, .func (.func 119) #[] #[], .func (.func 120) #[] #[.pointer (some ⟨w.heap.size + 1 + 1, 0, none⟩)]] W fun e w' => e = .returned (.string ⟨#[110, 111, 116, 32, 101, 113, 117, 97, 108]⟩) ∧ Below W.heap.size W w') := HCD
 clear HCD
 go_wp2_with (first | (go_at_call 118; (with_reducible refine (CT.out _ HR.out.bel).mono ?_); rintro e w1 ⟨rfl, hb1⟩; have HR := Lib.hid (HR.out.below hb1)) | (at_builtin; refine wpList_reason_new HR.out (by have := HN.out; omega) rfl _ _ rfl rfl rfl ?_ ?_; (first | rfl | omega); intro v1 w1 hr1))
 go_ret
 obtain ⟨rA, rc, hv⟩ := hr1.slice
 subst hv
 exact ⟨_, _, _, rfl, hr1.outer HB.out, by have := HN.out; omega, by rw [← HD.out, ← HL0.out]; simp⟩)))
set_option maxRecDepth 100000 in
set_option maxHeartbeats 2000000 in
theorem c66 (A1 A2 : Option Addr) (n1 n2 k1 k2 : Nat) (tp1 tp2 : Int) (it iv : Bool) (xs ys : List (Dot × Sl5)) (w : World) (h1 : Rd w w.heap.size 18 A1 n1 k1 (xs.map epF)) (h2 : Rd w w.heap.size 18 A2 n2 k2 (ys.map epF)) (hp1 : ∀ q ∈ xs, PtR w w.heap.size q.1 q.2) (hp2 : ∀ q ∈ ys, PtR w w.heap.size q.1 q.2) (hn1 : n1 ≤ 1000) (hn2 : n2 ≤ 1000) (hT : Lib.Utf8Tabs 3 4 w) (hT4 : 4 < w.heap.size) :
 Calls Tryz.prog 66 #[.agg #[.slice A1 n1 k1, .int .u8 tp1], .agg #[.slice A2 n2 k2, .int .u8 tp2], .agg #[.bool it, .bool iv]] w fun e w' => ∃ A n c, e = .returned (.slice A n c) ∧ Rs w w' (.slice A n c) n ∧ n ≤ 10 ∧ (n = 0 ↔ ((tp1 == tp2) && diffSame (epFEq it iv) xs ys) = true) := by
 obtain ⟨W0, hW0⟩ : ∃ W0, W0 = ((w.alloc (.cells #[.slice A1 n1 k1, .int .u8 tp1] 150)).alloc (.cells #[.slice A2 n2 k2, .int .u8 tp2] 150)).alloc (.cells #[.bool it, .bool iv] 101) := ⟨_, rfl⟩
 have hb : Below w.heap.size w W0 := by rw [hW0]; exact (((Below.refl _ _).alloc (Nat.le_refl _) _).alloc (by simp) _).alloc (by simp; omega) _
 have x0 : W0.cell? ⟨w.heap.size, 0, none⟩ = some (.slice A1 n1 k1) := by rw [hW0]; simp [go_sem]
 have x1 : W0.cell? ⟨w.heap.size, 1, none⟩ = some (.int .u8 tp1) := by rw [hW0]; simp [go_sem]
 have y0 : W0.cell? ⟨w.heap.size + 1, 0, none⟩ = some (.slice A2 n2 k2) := by rw [hW0]; simp [go_sem]
 have y1 : W0.cell? ⟨w.heap.size + 1, 1, none⟩ = some (.int .u8 tp2) := by rw [hW0]; simp [go_sem]
 have X0 := Lib.hid x0
 have X1 := Lib.hid x1
 have Y0 := Lib.hid y0
 have Y1 := Lib.hid y1
 have hbc : W0.heap[w.heap.size + 1 + 1]? = some (.cells #[.bool it, .bool iv] 101 (0, 0)) := by
  rw [hW0]
  have := heap_alloc_new ((w.alloc (.cells #[.slice A1 n1 k1, .int .u8 tp1] 150)).alloc (.cells #[.slice A2 n2 k2, .int .u8 tp2] 150)) (.cells #[.bool it, .bool iv] 101)
  simpa using this
 have hbl : w.heap.size + 1 + 1 < W0.heap.size := (Array.getElem?_eq_some_iff.1 hbc).1
 have CD : ∀ W, Below W0.heap.size W0 W → Calls Tryz.prog 122 #[.slice A1 n1 k1, .slice A2 n2 k2, .func (.func 123) #[] #[], .func (.func 124) #[] #[.pointer (some ⟨w.heap.size + 1 + 1, 0, none⟩)]] W fun e w' => e = .returned (dres (diffSame (epFEq it iv) xs ys)) ∧ Below W.heap.size W w' := fun W hW => by
  have hwW := below_then hb hb.size hW
  refine d122_124 epF epF_len epF_one (epFEq it iv) A1 A2 n1 n2 k1 k2 _ xs ys _ W ((h1.below hwW).more hwW.size) ((h2.below hwW).more hwW.size) hn1 hn2 fun q r hq hr V hV => ?_
  have hwV := below_then hwW hwW.size hV
  exact k124 q r it iv _ V (((hp1 q hq).below hwV).more hwV.size) (((hp2 r hr).below hwV).more hwV.size) (utf8_below hT hT4 hwV) (Nat.lt_of_lt_of_le hT4 hwV.size) ((hV.block _ (Nat.lt_of_lt_of_le hbl hW.size)).trans ((hW.block _ hbl).trans hbc))
 obtain ⟨L0, hL0⟩ : ∃ L : Bool, L = (tp1 == tp2) := ⟨_, rfl⟩
 have e0 : (tp1 != tp2) = !L0 := by rw [hL0]; rfl
 have HL0 := Lib.hid hL0
 obtain ⟨D, hD⟩ : ∃ D : Bool, D = diffSame (epFEq it iv) xs ys := ⟨_, rfl⟩
 rw [← hD] at CD
 have HD := Lib.hid hD
 have HCD := Lib.hid CD
 have HB := Lib.hid hb
 have HW := Lib.hid hW0
 have HR := Lib.hid (Rs.nil W0)
 have HN : Hid (0 ≤ 0) := Lib.hid (Nat.le_refl 0)
 clear hW0 hb hbc h1 h2 hp1 hp2 hT CD hD hL0
 go_enter Tryz.func66, Tryz.ntmps66
 go_upto_region 1 with fail
 rw [← HW.out]
 clear HW
 go_upto_if 12 with fail
 go_cut [6, 7] from 8 (fun s6 s7 wx => ∃ n, Rs W0 wx s6 n ∧ n ≤ 1 ∧ (n = 0 ↔ L0 = true))
 case first => (
 as_aux_lemma => (
 cases L0
 all_goals go_wp2_with (first | (go_at_call 57; refine (c57 _ (by decide) _ _ _).mono ?_; rintro e w2 ⟨⟨t2, rfl⟩, rfl⟩) | (at_builtin; refine wpList_reason_new HR.out (by have := HN.out; omega) rfl _ _ rfl rfl rfl ?_ ?_; (first | rfl | omega); intro v1 w1 hr1))
 all_goals go_meet
 · exact ⟨_, hr1, by have := HN.out; omega, by simp⟩
 · exact ⟨_, HR.out, by have := HN.out; omega, by simp⟩))
 case rest => (
 obtain ⟨n, hr, hn, hq⟩ := hcut
 obtain ⟨wk0, rfl⟩ : ∃ wk0 : World, wk0 = wc := ⟨_, rfl⟩
 have hbw := hr.bel
 replace x0 := cellk X0.out hbw
 replace x1 := cellk X1.out hbw
 replace y0 := cellk Y0.out hbw
 replace y1 := cellk Y1.out hbw
 replace HR := Lib.hid hr
 have HQ := Lib.hid hq
 replace HN := Lib.hid hn
 clear hr hn hq hbw
 as_aux_lemma => (
 cases D
 case true => (
 have CT : Hid (∀ W, Below W0.heap.size W0 W → Calls Tryz.prog 122 #[.slice A1 n1 k1, .slice A2 n2 k2, .func (.func 123) #[] #[], .func (.func 124) #[] #[.pointer (some ⟨w.heap.size + 1 + 1, 0, none⟩)]] W fun e w' => e = .returned (.string ⟨#[]⟩) ∧ Below W.heap.size W w') := HCD
 clear HCD
 go_wp2_with (go_at_call 122; (with_reducible refine (CT.out _ HR.out.bel).mono ?_); rintro e w1 ⟨rfl, hb1⟩; have HR := Lib.hid (HR.out.below hb1))
 go_ret
 obtain ⟨rA, rc, hv⟩ := HR.out.slice
 subst hv
 exact ⟨_, _, _, rfl, HR.out.outer HB.out, by have := HN.out; omega, by rw [← HD.out, ← HL0.out]; rw [HQ.out]; simp⟩)
 case false => (
 have CT : Hid (∀ W, Below W0.heap.size W0 W → Calls Tryz.prog 122 #[.slice A1 n1 k1, .slice A2 n2 k2, .func (.func 123) #[] #[], .func (.func 124) #[] #[.pointer (some ⟨w.heap.size + 1 + 1, 0, none⟩)]] W fun e w' => e = .returned (.string ⟨#[110, 111, 116, 32, 101, 113, 117, 97, 108]⟩) ∧ Below W.heap.size W w') := HCD
 clear HCD
 go_wp2_with (first | (go_at_call 122; (with_reducible refine (CT.out _ HR.out.bel).mono ?_); rintro e w1 ⟨rfl, hb1⟩; have HR := Lib.hid (HR.out.below hb1)) | (at_builtin; refine wpList_reason_new HR.out (by have := HN.out; omega) rfl _ _ rfl rfl rfl ?_ ?_; (first | rfl | omega); intro v1 w1 hr1))
 go_ret
 obtain ⟨rA, rc, hv⟩ := hr1.slice
 subst hv
 exact ⟨_, _, _, rfl, hr1.outer HB.out, by have := HN.out; omega, by rw [← HD.out, ← HL0.out]; simp⟩)))
end Go.Proofs.YtlpddogcnpokfaaGreatDoor
