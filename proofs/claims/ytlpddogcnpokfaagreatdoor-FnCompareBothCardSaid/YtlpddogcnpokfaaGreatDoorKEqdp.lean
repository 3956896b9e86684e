/- Contracts of functions of the program, for the comparison of aggregations (part KEqdp). -/
import Derived.Test.YtlpddogcnpokfaaGreatDoorKJs2
set_option linter.all false
namespace Go.Proofs.YtlpddogcnpokfaaGreatDoor
open Go.RowKit
set_option maxRecDepth 100000 in
set_option maxHeartbeats 4000000 in
theorem c101 (x y : Dot) (s t : Sl5) (it iv : Bool) (w : World) (hx : PtR w w.heap.size x s) (hy : PtR w w.heap.size y t) (hT : Lib.Utf8Tabs 3 4 w) (hT4 : 4 < w.heap.size) :
 Calls Tryz.prog 101 #[.agg #[.int .u64 (hashL x.attrs), .slice s.a.A s.a.n s.a.c, .int .i64 x.start, .int .i64 x.time, .int .i64 x.value, .slice none 0 0], .agg #[.int .u64 (hashL y.attrs), .slice t.a.A t.a.n t.a.c, .int .i64 y.start, .int .i64 y.time, .int .i64 y.value, .slice none 0 0], .agg #[.bool it, .bool iv]] w fun e w' => ∃ v n, e = .returned v ∧ Rs w w' v n ∧ n ≤ 4 ∧ (n = 0 ↔ ((listEq keq x.attrs y.attrs && (it || (x.start == y.start && x.time == y.time))) && (iv || (dVal false x.value y.value))) = true) := by
 obtain ⟨W0, hW0⟩ : ∃ W0, W0 = ((w.alloc (.cells #[.int .u64 (hashL x.attrs), .slice s.a.A s.a.n s.a.c, .int .i64 x.start, .int .i64 x.time, .int .i64 x.value, .slice none 0 0] 170)).alloc (.cells #[.int .u64 (hashL y.attrs), .slice t.a.A t.a.n t.a.c, .int .i64 y.start, .int .i64 y.time, .int .i64 y.value, .slice none 0 0] 170)).alloc (.cells #[.bool it, .bool iv] 101) := ⟨_, rfl⟩
 have hb : Below w.heap.size w W0 := by rw [hW0]; exact (((Below.refl _ _).alloc (Nat.le_refl _) _).alloc (by simp) _).alloc (by simp; omega) _
 have x0 : W0.cell? ⟨w.heap.size, 0, none⟩ = some (.int .u64 (hashL x.attrs)) := by rw [hW0]; simp [go_sem]
 have x1 : W0.cell? ⟨w.heap.size, 1, none⟩ = some (.slice s.a.A s.a.n s.a.c) := by rw [hW0]; simp [go_sem]
 have x2 : W0.cell? ⟨w.heap.size, 2, none⟩ = some (.int .i64 x.start) := by rw [hW0]; simp [go_sem]
 have x3 : W0.cell? ⟨w.heap.size, 3, none⟩ = some (.int .i64 x.time) := by rw [hW0]; simp [go_sem]
 have x4 : W0.cell? ⟨w.heap.size, 4, none⟩ = some (.int .i64 x.value) := by rw [hW0]; simp [go_sem]
 have y0 : W0.cell? ⟨w.heap.size + 1, 0, none⟩ = some (.int .u64 (hashL y.attrs)) := by rw [hW0]; simp [go_sem]
 have y1 : W0.cell? ⟨w.heap.size + 1, 1, none⟩ = some (.slice t.a.A t.a.n t.a.c) := by rw [hW0]; simp [go_sem]
 have y2 : W0.cell? ⟨w.heap.size + 1, 2, none⟩ = some (.int .i64 y.start) := by rw [hW0]; simp [go_sem]
 have y3 : W0.cell? ⟨w.heap.size + 1, 3, none⟩ = some (.int .i64 y.time) := by rw [hW0]; simp [go_sem]
 have y4 : W0.cell? ⟨w.heap.size + 1, 4, none⟩ = some (.int .i64 y.value) := by rw [hW0]; simp [go_sem]
 have z0 : W0.cell? ⟨w.heap.size + 1 + 1, 0, none⟩ = some (.bool it) := by rw [hW0]; simp [go_sem]
 have z1 : W0.cell? ⟨w.heap.size + 1 + 1, 1, none⟩ = some (.bool iv) := by rw [hW0]; simp [go_sem]
 have X0 := Lib.hid x0
 have X1 := Lib.hid x1
 have X2 := Lib.hid x2
 have X3 := Lib.hid x3
 have X4 := Lib.hid x4
 have Y0 := Lib.hid y0
 have Y1 := Lib.hid y1
 have Y2 := Lib.hid y2
 have Y3 := Lib.hid y3
 have Y4 := Lib.hid y4
 have Z0 := Lib.hid z0
 have Z1 := Lib.hid z1
 have hx0 := (hx.below hb).more hb.size
 have hy0 := (hy.below hb).more hb.size
 have C38 := Lib.hid (c38 x.attrs y.attrs s.a t.a w.heap.size (w.heap.size + 1) W0 hx0.set hy0.set x0 x1 y0 y1)
 have C99a := Lib.hid fun (W : World) (hW : Below W0.heap.size W0 W) => c99 x.attrs s.a w.heap.size W ((hx0.set.below hW).more hW.size) (utf8_below hT hT4 (below_then hb hb.size hW)) (Nat.lt_of_lt_of_le hT4 (below_then hb hb.size hW).size) (cellk x0 hW) (cellk x1 hW)
 have C99b := Lib.hid fun (W : World) (hW : Below W0.heap.size W0 W) => c99 y.attrs t.a (w.heap.size + 1) W ((hy0.set.below hW).more hW.size) (utf8_below hT hT4 (below_then hb hb.size hW)) (Nat.lt_of_lt_of_le hT4 (below_then hb hb.size hW).size) (cellk y0 hW) (cellk y1 hW)
 have HX := Lib.hid hx0
 have HY := Lib.hid hy0
 have HB := Lib.hid hb
 have HW := Lib.hid hW0
 have HR := Lib.hid (Rs.nil W0)
 obtain ⟨L0, hL0⟩ : ∃ L : Bool, L = (listEq keq x.attrs y.attrs) := ⟨_, rfl⟩
 obtain ⟨La, hLa⟩ : ∃ L : Bool, L = (x.start == y.start) := ⟨_, rfl⟩
 obtain ⟨Lb, hLb⟩ : ∃ L : Bool, L = (x.time == y.time) := ⟨_, rfl⟩
 obtain ⟨L1, hL1⟩ : ∃ L : Bool, L = (dVal false x.value y.value) := ⟨_, rfl⟩
 rw [← hL0] at C38
 have C145a := Lib.hid fun (W : World) => c145 x.start y.start W
 have C145b := Lib.hid fun (W : World) => c145 x.time y.time W
 rw [← hLa] at C145a
 rw [← hLb] at C145b
 have eL1 : (x.value != y.value) = !L1 := by rw [hL1]; rfl
 have HL0 := Lib.hid hL0
 have HLa := Lib.hid hLa
 have HLb := Lib.hid hLb
 have HL1 := Lib.hid hL1
 clear hT hx hy hx0 hy0 hb hW0 hL0 hLa hLb hL1
 go_enter Tryz.func101, Tryz.ntmps101
 go_upto_region 1 with fail
 rw [← HW.out]
 clear HW
 have HN : Hid (0 ≤ 0) := Lib.hid (Nat.le_refl 0)
 go_upto_if 10 with (go_at_call 38; (with_reducible refine (C38.out).mono ?_); rintro e w1 ⟨rfl, hb1⟩; replace x0 := cellk x0 hb1; replace x1 := cellk x1 hb1; replace x2 := cellk x2 hb1; replace x3 := cellk x3 hb1; replace x4 := cellk x4 hb1; replace y0 := cellk y0 hb1; replace y1 := cellk y1 hb1; replace y2 := cellk y2 hb1; replace y3 := cellk y3 hb1; replace y4 := cellk y4 hb1; replace z0 := cellk z0 hb1; replace z1 := cellk z1 hb1; have HR := Lib.hid (HR.out.below hb1))
 go_cut [6] from 7 (fun s6 wx => ∃ n, Rs W0 wx s6 n ∧ n ≤ 1 ∧ (n = 0 ↔ L0 = true))
 case first => (
 as_aux_lemma => (
 cases L0
 all_goals go_wp2_with (first | (go_at_call 99; (with_reducible refine (C99a.out _ HR.out.bel).mono ?_); rintro e w1 ⟨⟨t1, rfl⟩, hb1⟩; have HR := Lib.hid (HR.out.below hb1)) | (go_at_call 99; (with_reducible refine (C99b.out _ HR.out.bel).mono ?_); rintro e w1 ⟨⟨t1, rfl⟩, hb1⟩; have HR := Lib.hid (HR.out.below hb1)) | (go_at_call 57; refine (c57 _ (by decide) _ _ _).mono ?_; rintro e w2 ⟨⟨t2, rfl⟩, rfl⟩) | (at_builtin; refine wpList_reason_new HR.out (by have := HN.out; omega) rfl _ _ rfl rfl rfl ?_ ?_; (first | rfl | omega); intro v1 w1 hr1))
 all_goals go_meet
 · exact ⟨_, hr1, by have := HN.out; omega, by simp⟩
 · exact ⟨_, HR.out, by have := HN.out; omega, by simp⟩))
 case rest => (
 obtain ⟨n, hr, hn, hq⟩ := hcut
 obtain ⟨wk1, rfl⟩ : ∃ wk1 : World, wk1 = wc := ⟨_, rfl⟩
 have hbw := hr.bel
 replace x0 := cellk X0.out hbw
 replace x1 := cellk X1.out hbw
 replace x2 := cellk X2.out hbw
 replace x3 := cellk X3.out hbw
 replace x4 := cellk X4.out hbw
 replace y0 := cellk Y0.out hbw
 replace y1 := cellk Y1.out hbw
 replace y2 := cellk Y2.out hbw
 replace y3 := cellk Y3.out hbw
 replace y4 := cellk Y4.out hbw
 replace z0 := cellk Z0.out hbw
 replace z1 := cellk Z1.out hbw
 replace HR := Lib.hid hr
 have HQ := Lib.hid hq
 replace HN := Lib.hid hn
 clear hr hn hq hbw
 as_aux_lemma => (
 go_upto_if 23 with fail
 go_cut [6] from 7 (fun s6 wx => ∃ n, Rs W0 wx s6 n ∧ n ≤ 3 ∧ (n = 0 ↔ (L0 && (it || (La && Lb))) = true))
 case first => (
 cases it
 case true => (
 go_wp2_with fail
 go_meet
 exact ⟨_, HR.out, by have := HN.out; omega, by rw [HQ.out]; simp⟩)
 case false => (
 go_upto_if 29 with (go_at_call 145; (with_reducible refine (C145a.out _).mono ?_); rintro e w1 ⟨rfl, hb1⟩; replace x0 := cellk x0 hb1; replace x1 := cellk x1 hb1; replace x2 := cellk x2 hb1; replace x3 := cellk x3 hb1; replace x4 := cellk x4 hb1; replace y0 := cellk y0 hb1; replace y1 := cellk y1 hb1; replace y2 := cellk y2 hb1; replace y3 := cellk y3 hb1; replace y4 := cellk y4 hb1; replace z0 := cellk z0 hb1; replace z1 := cellk z1 hb1; have HR := Lib.hid (HR.out.below hb1))
 go_cut [6] from 7 (fun s6 wx => ∃ n, Rs W0 wx s6 n ∧ n ≤ 2 ∧ (n = 0 ↔ (L0 && La) = true))
 case first => (
 as_aux_lemma => (
 cases La
 all_goals go_wp2_with (first | (go_at_call 57; refine (c57 _ (by decide) _ _ _).mono ?_; rintro e w2 ⟨⟨t2, rfl⟩, rfl⟩) | (at_builtin; refine wpList_reason_new HR.out (by have := HN.out; omega) rfl _ _ rfl rfl rfl ?_ ?_; (first | rfl | omega); intro v1 w1 hr1))
 all_goals go_meet
 · exact ⟨_, hr1, by have := HN.out; omega, by simp⟩
 · exact ⟨_, HR.out, by have := HN.out; omega, by rw [HQ.out]; simp⟩))
 case rest => (
 obtain ⟨n, hr, hn, hq⟩ := hcut
 obtain ⟨wk2, rfl⟩ : ∃ wk2 : World, wk2 = wc := ⟨_, rfl⟩
 have hbw := hr.bel
 replace x0 := cellk X0.out hbw
 replace x1 := cellk X1.out hbw
 replace x2 := cellk X2.out hbw
 replace x3 := cellk X3.out hbw
 replace x4 := cellk X4.out hbw
 replace y0 := cellk Y0.out hbw
 replace y1 := cellk Y1.out hbw
 replace y2 := cellk Y2.out hbw
 replace y3 := cellk Y3.out hbw
 replace y4 := cellk Y4.out hbw
 replace z0 := cellk Z0.out hbw
 replace z1 := cellk Z1.out hbw
 replace HR := Lib.hid hr
 have HQ := Lib.hid hq
 replace HN := Lib.hid hn
 clear hr hn hq hbw
 as_aux_lemma => (
 go_upto_if 47 with (go_at_call 145; (with_reducible refine (C145b.out _).mono ?_); rintro e w1 ⟨rfl, hb1⟩; replace x0 := cellk x0 hb1; replace x1 := cellk x1 hb1; replace x2 := cellk x2 hb1; replace x3 := cellk x3 hb1; replace x4 := cellk x4 hb1; replace y0 := cellk y0 hb1; replace y1 := cellk y1 hb1; replace y2 := cellk y2 hb1; replace y3 := cellk y3 hb1; replace y4 := cellk y4 hb1; replace z0 := cellk z0 hb1; replace z1 := cellk z1 hb1; have HR := Lib.hid (HR.out.below hb1))
 go_cut [6] from 7 (fun s6 wx => ∃ n, Rs W0 wx s6 n ∧ n ≤ 3 ∧ (n = 0 ↔ (L0 && La && Lb) = true))
 case first => (
 as_aux_lemma => (
 cases Lb
 all_goals go_wp2_with (first | (go_at_call 57; refine (c57 _ (by decide) _ _ _).mono ?_; rintro e w2 ⟨⟨t2, rfl⟩, rfl⟩) | (at_builtin; refine wpList_reason_new HR.out (by have := HN.out; omega) rfl _ _ rfl rfl rfl ?_ ?_; (first | rfl | omega); intro v1 w1 hr1))
 all_goals go_meet
 · exact ⟨_, hr1, by have := HN.out; omega, by simp⟩
 · exact ⟨_, HR.out, by have := HN.out; omega, by rw [HQ.out]; simp⟩))
 case rest => (
 obtain ⟨n, hr, hn, hq⟩ := hcut
 obtain ⟨wk3, rfl⟩ : ∃ wk3 : World, wk3 = wc := ⟨_, rfl⟩
 have hbw := hr.bel
 replace x0 := cellk X0.out hbw
 replace x1 := cellk X1.out hbw
 replace x2 := cellk X2.out hbw
 replace x3 := cellk X3.out hbw
 replace x4 := cellk X4.out hbw
 replace y0 := cellk Y0.out hbw
 replace y1 := cellk Y1.out hbw
 replace y2 := cellk Y2.out hbw
 replace y3 := cellk Y3.out hbw
 replace y4 := cellk Y4.out hbw
 replace z0 := cellk Z0.out hbw
 replace z1 := cellk Z1.out hbw
 replace HR := Lib.hid hr
 have HQ := Lib.hid hq
 replace HN := Lib.hid hn
 clear hr hn hq hbw
 as_aux_lemma => (
 go_wp2_with fail
 go_meet
 exact ⟨_, HR.out, by have := HN.out; omega, by rw [HQ.out]; simp [Bool.and_assoc]⟩))))))
 case rest => (
 obtain ⟨n, hr, hn, hq⟩ := hcut
 obtain ⟨wk3, rfl⟩ : ∃ wk3 : World, wk3 = wc := ⟨_, rfl⟩
 have hbw := hr.bel
 replace x0 := cellk X0.out hbw
 replace x1 := cellk X1.out hbw
 replace x2 := cellk X2.out hbw
 replace x3 := cellk X3.out hbw
 replace x4 := cellk X4.out hbw
 replace y0 := cellk Y0.out hbw
 replace y1 := cellk Y1.out hbw
 replace y2 := cellk Y2.out hbw
 replace y3 := cellk Y3.out hbw
 replace y4 := cellk Y4.out hbw
 replace z0 := cellk Z0.out hbw
 replace z1 := cellk Z1.out hbw
 replace HR := Lib.hid hr
 have HQ := Lib.hid hq
 replace HN := Lib.hid hn
 clear hr hn hq hbw
 as_aux_lemma => (
 go_upto_if 62 with fail
 go_cut [6] from 7 (fun s6 wx => ∃ n, Rs W0 wx s6 n ∧ n ≤ 4 ∧ (n = 0 ↔ ((L0 && (it || (La && Lb))) && (iv || L1)) = true))
 case first => (
 cases iv
 case true => (
 go_wp2_with fail
 go_meet
 exact ⟨_, HR.out, by have := HN.out; omega, by rw [HQ.out]; simp⟩)
 case false => (
 go_upto_if 67 with fail
 go_cut [6] from 7 (fun s6 wx => ∃ n, Rs W0 wx s6 n ∧ n ≤ 4 ∧ (n = 0 ↔ ((L0 && (it || (La && Lb))) && L1) = true))
 case first => (
 as_aux_lemma => (
 cases L1
 all_goals go_wp2_with (first | (go_at_call 57; refine (c57 _ (by decide) _ _ _).mono ?_; rintro e w2 ⟨⟨t2, rfl⟩, rfl⟩) | (at_builtin; refine wpList_reason_new HR.out (by have := HN.out; omega) rfl _ _ rfl rfl rfl ?_ ?_; (first | rfl | omega); intro v1 w1 hr1))
 all_goals go_meet
 · exact ⟨_, hr1, by have := HN.out; omega, by simp⟩
 · exact ⟨_, HR.out, by have := HN.out; omega, by rw [HQ.out]; simp⟩))
 case rest => (
 obtain ⟨n, hr, hn, hq⟩ := hcut
 obtain ⟨wk4, rfl⟩ : ∃ wk4 : World, wk4 = wc := ⟨_, rfl⟩
 have hbw := hr.bel
 replace x0 := cellk X0.out hbw
 replace x1 := cellk X1.out hbw
 replace x2 := cellk X2.out hbw
 replace x3 := cellk X3.out hbw
 replace x4 := cellk X4.out hbw
 replace y0 := cellk Y0.out hbw
 replace y1 := cellk Y1.out hbw
 replace y2 := cellk Y2.out hbw
 replace y3 := cellk Y3.out hbw
 replace y4 := cellk Y4.out hbw
 replace z0 := cellk Z0.out hbw
 replace z1 := cellk Z1.out hbw
 replace HR := Lib.hid hr
 have HQ := Lib.hid hq
 replace HN := Lib.hid hn
 clear hr hn hq hbw
 as_aux_lemma => (
 go_wp2_with fail
 go_meet
 exact ⟨_, HR.out, by have := HN.out; omega, by rw [HQ.out]; simp [Bool.and_assoc]⟩))))
 case rest => (
 obtain ⟨n, hr, hn, hq⟩ := hcut
 obtain ⟨wk4, rfl⟩ : ∃ wk4 : World, wk4 = wc := ⟨_, rfl⟩
 have hbw := hr.bel
 replace x0 := cellk X0.out hbw
 replace x1 := cellk X1.out hbw
 replace x2 := cellk X2.out hbw
 replace x3 := cellk X3.out hbw
 replace x4 := cellk X4.out hbw
 replace y0 := cellk Y0.out hbw
 replace y1 := cellk Y1.out hbw
 replace y2 := cellk Y2.out hbw
 replace y3 := cellk Y3.out hbw
 replace y4 := cellk Y4.out hbw
 replace z0 := cellk Z0.out hbw
 replace z1 := cellk Z1.out hbw
 replace HR := Lib.hid hr
 have HQ := Lib.hid hq
 replace HN := Lib.hid hn
 clear hr hn hq hbw
 as_aux_lemma => (
 go_wp2_with fail
 go_ret
 refine ⟨_, _, rfl, HR.out.outer HB.out, HN.out, ?_⟩
 rw [HQ.out, HL0.out, HLa.out, HLb.out, HL1.out]))))))
set_option maxRecDepth 100000 in
set_option maxHeartbeats 4000000 in
theorem c105 (x y : Dot) (s t : Sl5) (it iv : Bool) (w : World) (hx : PtR w w.heap.size x s) (hy : PtR w w.heap.size y t) (hT : Lib.Utf8Tabs 3 4 w) (hT4 : 4 < w.heap.size) :
 Calls Tryz.prog 105 #[.agg #[.int .u64 (hashL x.attrs), .slice s.a.A s.a.n s.a.c, .int .i64 x.start, .int .i64 x.time, .float .f64 (x.value).toNat, .slice none 0 0], .agg #[.int .u64 (hashL y.attrs), .slice t.a.A t.a.n t.a.c, .int .i64 y.start, .int .i64 y.time, .float .f64 (y.value).toNat, .slice none 0 0], .agg #[.bool it, .bool iv]] w fun e w' => ∃ v n, e = .returned v ∧ Rs w w' v n ∧ n ≤ 4 ∧ (n = 0 ↔ ((listEq keq x.attrs y.attrs && (it || (x.start == y.start && x.time == y.time))) && (iv || (dVal true x.value y.value))) = true) := by
 obtain ⟨W0, hW0⟩ : ∃ W0, W0 = ((w.alloc (.cells #[.int .u64 (hashL x.attrs), .slice s.a.A s.a.n s.a.c, .int .i64 x.start, .int .i64 x.time, .float .f64 (x.value).toNat, .slice none 0 0] 156)).alloc (.cells #[.int .u64 (hashL y.attrs), .slice t.a.A t.a.n t.a.c, .int .i64 y.start, .int .i64 y.time, .float .f64 (y.value).toNat, .slice none 0 0] 156)).alloc (.cells #[.bool it, .bool iv] 101) := ⟨_, rfl⟩
 have hb : Below w.heap.size w W0 := by rw [hW0]; exact (((Below.refl _ _).alloc (Nat.le_refl _) _).alloc (by simp) _).alloc (by simp; omega) _
 have x0 : W0.cell? ⟨w.heap.size, 0, none⟩ = some (.int .u64 (hashL x.attrs)) := by rw [hW0]; simp [go_sem]
 have x1 : W0.cell? ⟨w.heap.size, 1, none⟩ = some (.slice s.a.A s.a.n s.a.c) := by rw [hW0]; simp [go_sem]
 have x2 : W0.cell? ⟨w.heap.size, 2, none⟩ = some (.int .i64 x.start) := by rw [hW0]; simp [go_sem]
 have x3 : W0.cell? ⟨w.heap.size, 3, none⟩ = some (.int .i64 x.time) := by rw [hW0]; simp [go_sem]
 have x4 : W0.cell? ⟨w.heap.size, 4, none⟩ = some (.float .f64 (x.value).toNat) := by rw [hW0]; simp [go_sem]
 have y0 : W0.cell? ⟨w.heap.size + 1, 0, none⟩ = some (.int .u64 (hashL y.attrs)) := by rw [hW0]; simp [go_sem]
 have y1 : W0.cell? ⟨w.heap.size + 1, 1, none⟩ = some (.slice t.a.A t.a.n t.a.c) := by rw [hW0]; simp [go_sem]
 have y2 : W0.cell? ⟨w.heap.size + 1, 2, none⟩ = some (.int .i64 y.start) := by rw [hW0]; simp [go_sem]
 have y3 : W0.cell? ⟨w.heap.size + 1, 3, none⟩ = some (.int .i64 y.time) := by rw [hW0]; simp [go_sem]
 have y4 : W0.cell? ⟨w.heap.size + 1, 4, none⟩ = some (.float .f64 (y.value).toNat) := by rw [hW0]; simp [go_sem]
 have z0 : W0.cell? ⟨w.heap.size + 1 + 1, 0, none⟩ = some (.bool it) := by rw [hW0]; simp [go_sem]
 have z1 : W0.cell? ⟨w.heap.size + 1 + 1, 1, none⟩ = some (.bool iv) := by rw [hW0]; simp [go_sem]
 have X0 := Lib.hid x0
 have X1 := Lib.hid x1
 have X2 := Lib.hid x2
 have X3 := Lib.hid x3
 have X4 := Lib.hid x4
 have Y0 := Lib.hid y0
 have Y1 := Lib.hid y1
 have Y2 := Lib.hid y2
 have Y3 := Lib.hid y3
 have Y4 := Lib.hid y4
 have Z0 := Lib.hid z0
 have Z1 := Lib.hid z1
 have hx0 := (hx.below hb).more hb.size
 have hy0 := (hy.below hb).more hb.size
 have C38 := Lib.hid (c38 x.attrs y.attrs s.a t.a w.heap.size (w.heap.size + 1) W0 hx0.set hy0.set x0 x1 y0 y1)
 have C99a := Lib.hid fun (W : World) (hW : Below W0.heap.size W0 W) => c99 x.attrs s.a w.heap.size W ((hx0.set.below hW).more hW.size) (utf8_below hT hT4 (below_then hb hb.size hW)) (Nat.lt_of_lt_of_le hT4 (below_then hb hb.size hW).size) (cellk x0 hW) (cellk x1 hW)
 have C99b := Lib.hid fun (W : World) (hW : Below W0.heap.size W0 W) => c99 y.attrs t.a (w.heap.size + 1) W ((hy0.set.below hW).more hW.size) (utf8_below hT hT4 (below_then hb hb.size hW)) (Nat.lt_of_lt_of_le hT4 (below_then hb hb.size hW).size) (cellk y0 hW) (cellk y1 hW)
 have HX := Lib.hid hx0
 have HY := Lib.hid hy0
 have HB := Lib.hid hb
 have HW := Lib.hid hW0
 have HR := Lib.hid (Rs.nil W0)
 obtain ⟨L0, hL0⟩ : ∃ L : Bool, L = (listEq keq x.attrs y.attrs) := ⟨_, rfl⟩
 obtain ⟨La, hLa⟩ : ∃ L : Bool, L = (x.start == y.start) := ⟨_, rfl⟩
 obtain ⟨Lb, hLb⟩ : ∃ L : Bool, L = (x.time == y.time) := ⟨_, rfl⟩
 obtain ⟨L1, hL1⟩ : ∃ L : Bool, L = (dVal true x.value y.value) := ⟨_, rfl⟩
 rw [← hL0] at C38
 have C145a := Lib.hid fun (W : World) => c145 x.start y.start W
 have C145b := Lib.hid fun (W : World) => c145 x.time y.time W
 rw [← hLa] at C145a
 rw [← hLb] at C145b
 have eL1 : (FloatKind.f64.format.order (x.value).toNat (y.value).toNat != some Ordering.eq) = !L1 := by rw [hL1]; rfl
 have HL0 := Lib.hid hL0
 have HLa := Lib.hid hLa
 have HLb := Lib.hid hLb
 have HL1 := Lib.hid hL1
 clear hT hx hy hx0 hy0 hb hW0 hL0 hLa hLb hL1
 go_enter Tryz.func105, Tryz.ntmps105
 go_upto_region 1 with fail
 rw [← HW.out]
 clear HW
 have HN : Hid (0 ≤ 0) := Lib.hid (Nat.le_refl 0)
 go_upto_if 10 with (go_at_call 38; (with_reducible refine (C38.out).mono ?_); rintro e w1 ⟨rfl, hb1⟩; replace x0 := cellk x0 hb1; replace x1 := cellk x1 hb1; replace x2 := cellk x2 hb1; replace x3 := cellk x3 hb1; replace x4 := cellk x4 hb1; replace y0 := cellk y0 hb1; replace y1 := cellk y1 hb1; replace y2 := cellk y2 hb1; replace y3 := cellk y3 hb1; replace y4 := cellk y4 hb1; replace z0 := cellk z0 hb1; replace z1 := cellk z1 hb1; have HR := Lib.hid (HR.out.below hb1))
 go_cut [6] from 7 (fun s6 wx => ∃ n, Rs W0 wx s6 n ∧ n ≤ 1 ∧ (n = 0 ↔ L0 = true))
 case first => (
 as_aux_lemma => (
 cases L0
 all_goals go_wp2_with (first | (go_at_call 99; (with_reducible refine (C99a.out _ HR.out.bel).mono ?_); rintro e w1 ⟨⟨t1, rfl⟩, hb1⟩; have HR := Lib.hid (HR.out.below hb1)) | (go_at_call 99; (with_reducible refine (C99b.out _ HR.out.bel).mono ?_); rintro e w1 ⟨⟨t1, rfl⟩, hb1⟩; have HR := Lib.hid (HR.out.below hb1)) | (go_at_call 57; refine (c57 _ (by decide) _ _ _).mono ?_; rintro e w2 ⟨⟨t2, rfl⟩, rfl⟩) | (at_builtin; refine wpList_reason_new HR.out (by have := HN.out; omega) rfl _ _ rfl rfl rfl ?_ ?_; (first | rfl | omega); intro v1 w1 hr1))
 all_goals go_meet
 · exact ⟨_, hr1, by have := HN.out; omega, by simp⟩
 · exact ⟨_, HR.out, by have := HN.out; omega, by simp⟩))
 case rest => (
 obtain ⟨n, hr, hn, hq⟩ := hcut
 obtain ⟨wk1, rfl⟩ : ∃ wk1 : World, wk1 = wc := ⟨_, rfl⟩
 have hbw := hr.bel
 replace x0 := cellk X0.out hbw
 replace x1 := cellk X1.out hbw
 replace x2 := cellk X2.out hbw
 replace x3 := cellk X3.out hbw
 replace x4 := cellk X4.out hbw
 replace y0 := cellk Y0.out hbw
 replace y1 := cellk Y1.out hbw
 replace y2 := cellk Y2.out hbw
 replace y3 := cellk Y3.out hbw
 replace y4 := cellk Y4.out hbw
 replace z0 := cellk Z0.out hbw
 replace z1 := cellk Z1.out hbw
 replace HR := Lib.hid hr
 have HQ := Lib.hid hq
 replace HN := Lib.hid hn
 clear hr hn hq hbw
 as_aux_lemma => (
 go_upto_if 23 with fail
 go_cut [6] from 7 (fun s6 wx => ∃ n, Rs W0 wx s6 n ∧ n ≤ 3 ∧ (n = 0 ↔ (L0 && (it || (La && Lb))) = true))
 case first => (
 cases it
 case true => (
 go_wp2_with fail
 go_meet
 exact ⟨_, HR.out, by have := HN.out; omega, by rw [HQ.out]; simp⟩)
 case false => (
 go_upto_if 29 with (go_at_call 145; (with_reducible refine (C145a.out _).mono ?_); rintro e w1 ⟨rfl, hb1⟩; replace x0 := cellk x0 hb1; replace x1 := cellk x1 hb1; replace x2 := cellk x2 hb1; replace x3 := cellk x3 hb1; replace x4 := cellk x4 hb1; replace y0 := cellk y0 hb1; replace y1 := cellk y1 hb1; replace y2 := cellk y2 hb1; replace y3 := cellk y3 hb1; replace y4 := cellk y4 hb1; replace z0 := cellk z0 hb1; replace z1 := cellk z1 hb1; have HR := Lib.hid (HR.out.below hb1))
 go_cut [6] from 7 (fun s6 wx => ∃ n, Rs W0 wx s6 n ∧ n ≤ 2 ∧ (n = 0 ↔ (L0 && La) = true))
 case first => (
 as_aux_lemma => (
 cases La
 all_goals go_wp2_with (first | (go_at_call 57; refine (c57 _ (by decide) _ _ _).mono ?_; rintro e w2 ⟨⟨t2, rfl⟩, rfl⟩) | (at_builtin; refine wpList_reason_new HR.out (by have := HN.out; omega) rfl _ _ rfl rfl rfl ?_ ?_; (first | rfl | omega); intro v1 w1 hr1))
 all_goals go_meet
 · exact ⟨_, hr1, by have := HN.out; omega, by simp⟩
 · exact ⟨_, HR.out, by have := HN.out; omega, by rw [HQ.out]; simp⟩))
 case rest => (
 obtain ⟨n, hr, hn, hq⟩ := hcut
 obtain ⟨wk2, rfl⟩ : ∃ wk2 : World, wk2 = wc := ⟨_, rfl⟩
 have hbw := hr.bel
 replace x0 := cellk X0.out hbw
 replace x1 := cellk X1.out hbw
 replace x2 := cellk X2.out hbw
 replace x3 := cellk X3.out hbw
 replace x4 := cellk X4.out hbw
 replace y0 := cellk Y0.out hbw
 replace y1 := cellk Y1.out hbw
 replace y2 := cellk Y2.out hbw
 replace y3 := cellk Y3.out hbw
 replace y4 := cellk Y4.out hbw
 replace z0 := cellk Z0.out hbw
 replace z1 := cellk Z1.out hbw
 replace HR := Lib.hid hr
 have HQ := Lib.hid hq
 replace HN := Lib.hid hn
 clear hr hn hq hbw
 as_aux_lemma => (
 go_upto_if 47 with (go_at_call 145; (with_reducible refine (C145b.out _).mono ?_); rintro e w1 ⟨rfl, hb1⟩; replace x0 := cellk x0 hb1; replace x1 := cellk x1 hb1; replace x2 := cellk x2 hb1; replace x3 := cellk x3 hb1; replace x4 := cellk x4 hb1; replace y0 := cellk y0 hb1; replace y1 := cellk y1 hb1; replace y2 := cellk y2 hb1; replace y3 := cellk y3 hb1; replace y4 := cellk y4 hb1; replace z0 := cellk z0 hb1; replace z1 := cellk z1 hb1; have HR := Lib.hid (HR.out.below hb1))
 go_cut [6] from 7 (fun s6 wx => ∃ n, Rs W0 wx s6 n ∧ n ≤ 3 ∧ (n = 0 ↔ (L0 && La && Lb) = true))
 case first => (
 as_aux_lemma => (
 cases Lb
 all_goals go_wp2_with (first | (go_at_call 57; refine (c57 _ (by decide) _ _ _).mono ?_; rintro e w2 ⟨⟨t2, rfl⟩, rfl⟩) | (at_builtin; refine wpList_reason_new HR.out (by have := HN.out; omega) rfl _ _ rfl rfl rfl ?_ ?_; (first | rfl | omega); intro v1 w1 hr1))
 all_goals go_meet
 · exact ⟨_, hr1, by have := HN.out; omega, by simp⟩
 · exact ⟨_, HR.out, by have := HN.out; omega, by rw [HQ.out]; simp⟩))
 case rest => (
 obtain ⟨n, hr, hn, hq⟩ := hcut
 obtain ⟨wk3, rfl⟩ : ∃ wk3 : World, wk3 = wc := ⟨_, rfl⟩
 have hbw := hr.bel
 replace x0 := cellk X0.out hbw
 replace x1 := cellk X1.out hbw
 replace x2 := cellk X2.out hbw
 replace x3 := cellk X3.out hbw
 replace x4 := cellk X4.out hbw
 replace y0 := cellk Y0.out hbw
 replace y1 := cellk Y1.out hbw
 replace y2 := cellk Y2.out hbw
 replace y3 := cellk Y3.out hbw
 replace y4 := cellk Y4.out hbw
 replace z0 := cellk Z0.out hbw
 replace z1 := cellk Z1.out hbw
 replace HR := Lib.hid hr
 have HQ := Lib.hid hq
 replace HN := Lib.hid hn
 clear hr hn hq hbw
 as_aux_lemma => (
 go_wp2_with fail
 go_meet
 exact ⟨_, HR.out, by have := HN.out; omega, by rw [HQ.out]; simp [Bool.and_assoc]⟩))))))
 case rest => (
 obtain ⟨n, hr, hn, hq⟩ := hcut
 obtain ⟨wk3, rfl⟩ : ∃ wk3 : World, wk3 = wc := ⟨_, rfl⟩
 have hbw := hr.bel
 replace x0 := cellk X0.out hbw
 replace x1 := cellk X1.out hbw
 replace x2 := cellk X2.out hbw
 replace x3 := cellk X3.out hbw
 replace x4 := cellk X4.out hbw
 replace y0 := cellk Y0.out hbw
 replace y1 := cellk Y1.out hbw
 replace y2 := cellk Y2.out hbw
 replace y3 := cellk Y3.out hbw
 replace y4 := cellk Y4.out hbw
 replace z0 := cellk Z0.out hbw
 replace z1 := cellk Z1.out hbw
 replace HR := Lib.hid hr
 have HQ := Lib.hid hq
 replace HN := Lib.hid hn
 clear hr hn hq hbw
 as_aux_lemma => (
 go_upto_if 62 with fail
 go_cut [6] from 7 (fun s6 wx => ∃ n, Rs W0 wx s6 n ∧ n ≤ 4 ∧ (n = 0 ↔ ((L0 && (it || (La && Lb))) && (iv || L1)) = true))
 case first => (
 cases iv
 case true => (
 go_wp2_with fail
 go_meet
 exact ⟨_, HR.out, by have := HN.out; omega, by rw [HQ.out]; simp⟩)
 case false => (
 go_upto_if 67 with fail
 go_cut [6] from 7 (fun s6 wx => ∃ n, Rs W0 wx s6 n ∧ n ≤ 4 ∧ (n = 0 ↔ ((L0 && (it || (La && Lb))) && L1) = true))
 case first => (
 as_aux_lemma => (
 cases L1
 all_goals go_wp2_with (first | (go_at_call 57; refine (c57 _ (by decide) _ _ _).mono ?_; rintro e w2 ⟨⟨t2, rfl⟩, rfl⟩) | (at_builtin; refine wpList_reason_new HR.out (by have := HN.out; omega) rfl _ _ rfl rfl rfl ?_ ?_; (first | rfl | omega); intro v1 w1 hr1))
 all_goals go_meet
 · exact ⟨_, hr1, by have := HN.out; omega, by simp⟩
 · exact ⟨_, HR.out, by have := HN.out; omega, by rw [HQ.out]; simp⟩))
 case rest => (
 obtain ⟨n, hr, hn, hq⟩ := hcut
 obtain ⟨wk4, rfl⟩ : ∃ wk4 : World, wk4 = wc := ⟨_, rfl⟩
 have hbw := hr.bel
 replace x0 := cellk X0.out hbw
 replace x1 := cellk X1.out hbw
 replace x2 := cellk X2.out hbw
 replace x3 := cellk X3.out hbw
 replace x4 := cellk X4.out hbw
 replace y0 := cellk Y0.out hbw
 replace y1 := cellk Y1.out hbw
 replace y2 := cellk Y2.out hbw
 replace y3 := cellk Y3.out hbw
 replace y4 := cellk Y4.out hbw
 replace z0 := cellk Z0.out hbw
 replace z1 := cellk Z1.out hbw
 replace HR := Lib.hid hr
 have HQ := Lib.hid hq
 replace HN := Lib.hid hn
 clear hr hn hq hbw
 as_aux_lemma => (
 go_wp2_with fail
 go_meet
 exact ⟨_, HR.out, by have := HN.out; omega, by rw [HQ.out]; simp [Bool.and_assoc]⟩))))
 case rest => (
 obtain ⟨n, hr, hn, hq⟩ := hcut
 obtain ⟨wk4, rfl⟩ : ∃ wk4 : World, wk4 = wc := ⟨_, rfl⟩
 have hbw := hr.bel
 replace x0 := cellk X0.out hbw
 replace x1 := cellk X1.out hbw
 replace x2 := cellk X2.out hbw
 replace x3 := cellk X3.out hbw
 replace x4 := cellk X4.out hbw
 replace y0 := cellk Y0.out hbw
 replace y1 := cellk Y1.out hbw
 replace y2 := cellk Y2.out hbw
 replace y3 := cellk Y3.out hbw
 replace y4 := cellk Y4.out hbw
 replace z0 := cellk Z0.out hbw
 replace z1 := cellk Z1.out hbw
 replace HR := Lib.hid hr
 have HQ := Lib.hid hq
 replace HN := Lib.hid hn
 clear hr hn hq hbw
 as_aux_lemma => (
 go_wp2_with fail
 go_ret
 refine ⟨_, _, rfl, HR.out.outer HB.out, HN.out, ?_⟩
 rw [HQ.out, HL0.out, HLa.out, HLb.out, HL1.out]))))))
end Go.Proofs.YtlpddogcnpokfaaGreatDoor
