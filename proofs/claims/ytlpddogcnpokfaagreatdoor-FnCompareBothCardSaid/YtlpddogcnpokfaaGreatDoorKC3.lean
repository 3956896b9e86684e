/- Contracts of functions of the program, for the comparison of aggregations (part KC3). -/
import Derived.Test.YtlpddogcnpokfaaGreatDoorKR5
import Derived.Test.YtlpddogcnpokfaaGreatDoorKEqv
set_option linter.all false
namespace Go.Proofs.YtlpddogcnpokfaaGreatDoor
open Go.RowKit
set_option maxRecDepth 100000 in
set_option maxHeartbeats 4000000 in
theorem c3 (a b : Data) (A1 A2 : Option Addr) (n1 k1 n2 k2 : Nat) (w : World) (ha : DotsR w w.heap.size A1 n1 k1 a.dots) (hb : DotsR w w.heap.size A2 n2 k2 b.dots) (hT : Lib.Utf8Tabs 3 4 w) (hT4 : 4 < w.heap.size) :
 Calls Tryz.prog 3 #[.agg #[.int .u8 a.kind, .bool a.float, .bool a.delta, .bool a.mono, .slice A1 n1 k1], .agg #[.int .u8 b.kind, .bool b.float, .bool b.delta, .bool b.mono, .slice A2 n2 k2]] w fun e w' => e = .returned (.bool true) ∧ Below w.heap.size w w' := by
 have oa : ∀ x ∈ a.dots, x.1.Ok := fun x hx => (ha.all x hx).ok
 have ob : ∀ x ∈ b.dots, x.1.Ok := fun x hx => (hb.all x hx).ok
 obtain ⟨W0, hW0⟩ : ∃ W0, W0 = (w.alloc (.cells #[.int .u8 a.kind, .bool a.float, .bool a.delta, .bool a.mono, .slice A1 n1 k1] 24)).alloc (.cells #[.int .u8 b.kind, .bool b.float, .bool b.delta, .bool b.mono, .slice A2 n2 k2] 24) := ⟨_, rfl⟩
 have hb0 : Below w.heap.size w W0 := by rw [hW0]; exact ((Below.refl _ _).alloc (Nat.le_refl _) _).alloc (by simp) _
 have x0 : W0.cell? ⟨w.heap.size, 0, none⟩ = some (.int .u8 a.kind) := by rw [hW0]; simp [go_sem]
 have x1 : W0.cell? ⟨w.heap.size, 1, none⟩ = some (.bool a.float) := by rw [hW0]; simp [go_sem]
 have x2 : W0.cell? ⟨w.heap.size, 2, none⟩ = some (.bool a.delta) := by rw [hW0]; simp [go_sem]
 have x3 : W0.cell? ⟨w.heap.size, 3, none⟩ = some (.bool a.mono) := by rw [hW0]; simp [go_sem]
 have x4 : W0.cell? ⟨w.heap.size, 4, none⟩ = some (.slice A1 n1 k1) := by rw [hW0]; simp [go_sem]
 have y0 : W0.cell? ⟨w.heap.size + 1, 0, none⟩ = some (.int .u8 b.kind) := by rw [hW0]; simp [go_sem]
 have y1 : W0.cell? ⟨w.heap.size + 1, 1, none⟩ = some (.bool b.float) := by rw [hW0]; simp [go_sem]
 have y2 : W0.cell? ⟨w.heap.size + 1, 2, none⟩ = some (.bool b.delta) := by rw [hW0]; simp [go_sem]
 have y3 : W0.cell? ⟨w.heap.size + 1, 3, none⟩ = some (.bool b.mono) := by rw [hW0]; simp [go_sem]
 have y4 : W0.cell? ⟨w.heap.size + 1, 4, none⟩ = some (.slice A2 n2 k2) := by rw [hW0]; simp [go_sem]
 have hs0 : W0.heap.size = w.heap.size + 2 := by rw [hW0]; simp
 have up : ∀ W, Below W0.heap.size W0 W → Below w.heap.size w W := fun W hW => below_then hb0 hb0.size hW
 have CA6 := Lib.hid fun (W : World) (hW : Below W0.heap.size W0 W) => c6 a.kind a.float a.delta a.mono A1 n1 k1 a.dots W ((ha.below (up W hW)).more (up W hW).size)
 have CB6 := Lib.hid fun (W : World) (hW : Below W0.heap.size W0 W) => c6 b.kind b.float b.delta b.mono A2 n2 k2 b.dots W ((hb.below (up W hW)).more (up W hW).size)
 have CA7 := Lib.hid fun (W : World) (hW : Below W0.heap.size W0 W) => c7 a.kind a.float a.delta a.mono A1 n1 k1 a.dots W ((ha.below (up W hW)).more (up W hW).size)
 have CB7 := Lib.hid fun (W : World) (hW : Below W0.heap.size W0 W) => c7 b.kind b.float b.delta b.mono A2 n2 k2 b.dots W ((hb.below (up W hW)).more (up W hW).size)
 have C8 := Lib.hid fun (W : World) (hW : Below W0.heap.size W0 W) (ra : Right a.kind a.float a.dots) (rb : Right b.kind b.float b.dots) => c8two a b A1 A2 n1 k1 n2 k2 W ((ha.below (up W hW)).more (up W hW).size) ((hb.below (up W hW)).more (up W hW).size) ra rb
 have C9 := Lib.hid fun (W : World) (hW : Below W0.heap.size W0 W) => c9 W (utf8_below hT hT4 (up W hW)) (Nat.lt_of_lt_of_le hT4 (up W hW).size)
 have C10a := Lib.hid fun (Wx : World) (hWx : Below W0.heap.size W0 Wx) (ra : Right a.kind a.float a.dots) (W : World) (hW : Below Wx.heap.size Wx W) (X : List Nat) (hX : ∀ x ∈ X, Wx.heap.size ≤ x ∧ x < W.heap.size) => c10d a X hX hW.size (((ha.below (up Wx hWx)).more (up Wx hWx).size).below hW) ra
 have C10b := Lib.hid fun (Wx : World) (hWx : Below W0.heap.size W0 Wx) (rb : Right b.kind b.float b.dots) (W : World) (hW : Below Wx.heap.size Wx W) (X : List Nat) (hX : ∀ x ∈ X, Wx.heap.size ≤ x ∧ x < W.heap.size) => c10d b X hX hW.size (((hb.below (up Wx hWx)).more (up Wx hWx).size).below hW) rb
 have C11 := Lib.hid fun (it iv : Bool) (W : World) (hW : Below W0.heap.size W0 W) (ra : Right a.kind a.float a.dots) (rb : Right b.kind b.float b.dots) (P1 P2 : Option Addr) (m1 q1 m2 q2 : Nat) (h1 : Conv W a.dots P1 m1 q1) (h2 : Conv W b.dots P2 m2 q2) => c11c it iv a b h1 h2 ra rb oa ob (utf8_below hT hT4 (up W hW)) (Nat.lt_of_lt_of_le hT4 (up W hW).size)
 have C11r := Lib.hid fun (it iv : Bool) (W : World) (hW : Below W0.heap.size W0 W) (ra : Right a.kind a.float a.dots) (rb : Right b.kind b.float b.dots) (P1 P2 : Option Addr) (m1 q1 m2 q2 : Nat) (h1 : Conv W a.dots P1 m1 q1) (h2 : Conv W b.dots P2 m2 q2) => c11c it iv b a h2 h1 rb ra ob oa (utf8_below hT hT4 (up W hW)) (Nat.lt_of_lt_of_le hT4 (up W hW).size)
 have hzA : W0.heap[w.heap.size]? = some (.cells #[.int .u8 a.kind, .bool a.float, .bool a.delta, .bool a.mono, .slice A1 n1 k1] 24 (0, 0)) := by
  rw [hW0, Below.heap_alloc _ _ _ (by simp)]; exact heap_alloc_new w _
 have hzB : W0.heap[w.heap.size + 1]? = some (.cells #[.int .u8 b.kind, .bool b.float, .bool b.delta, .bool b.mono, .slice A2 n2 k2] 24 (0, 0)) := by
  rw [hW0]
  have := heap_alloc_new (w.alloc (.cells #[.int .u8 a.kind, .bool a.float, .bool a.delta, .bool a.mono, .slice A1 n1 k1] 24)) (.cells #[.int .u8 b.kind, .bool b.float, .bool b.delta, .bool b.mono, .slice A2 n2 k2] 24)
  simpa using this
 have HZA := Lib.hid hzA
 have HZB := Lib.hid hzB
 clear hzA hzB
 have HB := Lib.hid hb0
 have HW := Lib.hid hW0
 have HS0 := Lib.hid hs0
 have HUP := Lib.hid up
 have X0 := Lib.hid x0
 have X1 := Lib.hid x1
 have X2 := Lib.hid x2
 have X3 := Lib.hid x3
 have X4 := Lib.hid x4
 have Y0 := Lib.hid y0
 have Y1 := Lib.hid y1
 have Y2 := Lib.hid y2
 have Y3 := Lib.hid y3
 have Y4 := Lib.hid y4
 clear hW0 hb0 hs0 up ha hb hT
 go_enter Tryz.func3, Tryz.ntmps3
 go_upto_region 1 with fail
 rw [← HW.out]
 try simp only [Act.put]
 go_cut [19] from 12 (fun s wx => (∃ r, s = .bool r) ∧ Below W0.heap.size W0 wx)
 case first => (
 as_aux_lemma => (
 go_wp2_with (first
  | (go_at_call 6; (with_reducible refine (CA6.out _ (Below.refl _ _)).mono ?_); rintro e w1 ⟨⟨r, rfl⟩, hb1⟩; have x0 := cellk X0.out hb1; have x1 := cellk X1.out hb1; have x2 := cellk X2.out hb1; have x3 := cellk X3.out hb1; have x4 := cellk X4.out hb1; have y0 := cellk Y0.out hb1; have y1 := cellk Y1.out hb1; have y2 := cellk Y2.out hb1; have y3 := cellk Y3.out hb1; have y4 := cellk Y4.out hb1; cases r)
  | (go_at_call 6; (with_reducible refine (CB6.out _ hb1).mono ?_); rintro e w2 ⟨⟨r, rfl⟩, hb2⟩; have hb12 := below_then hb1 hb1.size hb2; cases r))
 all_goals go_meet
 all_goals first | exact ⟨⟨_, rfl⟩, hb12⟩ | exact ⟨⟨_, rfl⟩, hb1⟩))
 case rest => (
 obtain ⟨⟨r, rfl⟩, hbc⟩ := hcut
 obtain ⟨Wa, rfl⟩ : ∃ W : World, W = wc := ⟨_, rfl⟩
 have HBA := Lib.hid hbc
 clear hbc
 replace x0 := cellk X0.out HBA.out
 replace x1 := cellk X1.out HBA.out
 replace x2 := cellk X2.out HBA.out
 replace x3 := cellk X3.out HBA.out
 replace x4 := cellk X4.out HBA.out
 replace y0 := cellk Y0.out HBA.out
 replace y1 := cellk Y1.out HBA.out
 replace y2 := cellk Y2.out HBA.out
 replace y3 := cellk Y3.out HBA.out
 replace y4 := cellk Y4.out HBA.out
 cases r
 case true => (
 as_aux_lemma => (
 go_wp2_with fail
 go_ret
 exact ⟨rfl, HUP.out _ HBA.out⟩))
 case false => (
 as_aux_lemma => (
 go_upto_region 3 with fail
 go_cut [34] from 20 (fun s wx => (∃ r, s = .bool r ∧ (r = false → Right a.kind a.float a.dots ∧ Right b.kind b.float b.dots)) ∧ Below W0.heap.size W0 wx)
 case first => (
 as_aux_lemma => (
 go_wp2_with (first
  | (go_at_call 7; (with_reducible refine (CA7.out _ HBA.out).mono ?_); rintro e w3 ⟨⟨r, rfl, hra⟩, hb3⟩; have hq3 := below_then HBA.out HBA.out.size hb3; have x0 := cellk X0.out hq3; have x1 := cellk X1.out hq3; have x2 := cellk X2.out hq3; have x3 := cellk X3.out hq3; have x4 := cellk X4.out hq3; have y0 := cellk Y0.out hq3; have y1 := cellk Y1.out hq3; have y2 := cellk Y2.out hq3; have y3 := cellk Y3.out hq3; have y4 := cellk Y4.out hq3; cases r)
  | (go_at_call 7; (with_reducible refine (CB7.out _ hq3).mono ?_); rintro e w4 ⟨⟨r, rfl, hrb⟩, hb4⟩; have hq4 := below_then hq3 hq3.size hb4; have x0 := cellk X0.out hq4; have x1 := cellk X1.out hq4; have x2 := cellk X2.out hq4; have x3 := cellk X3.out hq4; have x4 := cellk X4.out hq4; have y0 := cellk Y0.out hq4; have y1 := cellk Y1.out hq4; have y2 := cellk Y2.out hq4; have y3 := cellk Y3.out hq4; have y4 := cellk Y4.out hq4; cases r)
  | ((with_reducible refine arm_bs2 24 52 (.tmp 29) (.tmp 30) 5 (infoD_four infoD24) Tryz.underlying52 (by decide) (c1 := #[.int .u8 a.kind, .bool a.float, .bool a.delta, .bool a.mono, .slice A1 n1 k1]) (c2 := #[.int .u8 b.kind, .bool b.float, .bool b.delta, .bool b.mono, .slice A2 n2 k2]) (cs := #[.int .u8 a.kind, .bool a.float, .bool a.delta, .bool a.mono, .slice A1 n1 k1, .int .u8 b.kind, .bool b.float, .bool b.delta, .bool b.mono, .slice A2 n2 k2]) rfl rfl rfl ?_ ?_ ?_ ?_); kernel_rfl; rfl; rfl)
  | (go_at_call 8; have hra2 := hra (by trivial); have hrb2 := hrb (by trivial); (with_reducible refine (C8.out _ hq4 hra2 hrb2).mono ?_); rintro e w5 ⟨⟨r, rfl⟩, hb5⟩; have hq5 := below_then hq4 hq4.size hb5; cases r))
 all_goals go_meet
 all_goals first
  | exact ⟨⟨_, rfl, fun h => Bool.noConfusion h⟩, hq5⟩
  | exact ⟨⟨_, rfl, fun h => Bool.noConfusion h⟩, hq4⟩
  | exact ⟨⟨_, rfl, fun h => Bool.noConfusion h⟩, hq3⟩
  | exact ⟨⟨_, rfl, fun _ => ⟨hra2, hrb2⟩⟩, hq5⟩))
 case rest => (
 obtain ⟨⟨r, rfl, hrr⟩, hbc⟩ := hcut
 obtain ⟨Wb, rfl⟩ : ∃ W : World, W = wc := ⟨_, rfl⟩
 have HBB := Lib.hid hbc
 clear hbc HBA
 replace x0 := cellk X0.out HBB.out
 replace x1 := cellk X1.out HBB.out
 replace x2 := cellk X2.out HBB.out
 replace x3 := cellk X3.out HBB.out
 replace x4 := cellk X4.out HBB.out
 replace y0 := cellk Y0.out HBB.out
 replace y1 := cellk Y1.out HBB.out
 replace y2 := cellk Y2.out HBB.out
 replace y3 := cellk Y3.out HBB.out
 replace y4 := cellk Y4.out HBB.out
 cases r
 case true => (
 as_aux_lemma => (
 go_wp2_with (go_at_call 9; (with_reducible refine (C9.out _ HBB.out).mono ?_); rintro e w6 ⟨rfl, hb6⟩)
 go_ret
 exact ⟨rfl, HUP.out _ (below_then HBB.out HBB.out.size hb6)⟩))
 case false => (
 obtain ⟨ra, rb⟩ := hrr rfl
 clear hrr
 as_aux_lemma => (
 go_upto_region 5 with fail
 obtain ⟨Wd, hWd⟩ : ∃ Wd, Wd = Wb.drew := ⟨_, rfl⟩
 have HSD : Hid (Wd.heap.size = Wb.heap.size) := Lib.hid (by rw [hWd]; rfl)
 have hWbd : Below Wb.heap.size Wb Wd := by rw [hWd]; exact below_drew (Below.refl _ _)
 have hWd0 : Below W0.heap.size W0 Wd := by rw [hWd]; exact below_drew HBB.out
 replace C10a := Lib.hid fun (W : World) (hW : Below Wd.heap.size Wd W) (X : List Nat) (hX : ∀ x ∈ X, Wd.heap.size ≤ x ∧ x < W.heap.size) => C10a.out Wd hWd0 ra W hW X hX
 replace C10b := Lib.hid fun (W : World) (hW : Below Wd.heap.size Wd W) (X : List Nat) (hX : ∀ x ∈ X, Wd.heap.size ≤ x ∧ x < W.heap.size) => C10b.out Wd hWd0 rb W hW X hX
 have zA : Wb.drew.heap[w.heap.size]? = some (.cells #[.int .u8 a.kind, .bool a.float, .bool a.delta, .bool a.mono, .slice A1 n1 k1] 24 (0, 0)) := (HBB.out.block _ (Array.getElem?_eq_some_iff.1 HZA.out).1).trans HZA.out
 have zB : Wb.drew.heap[w.heap.size + 1]? = some (.cells #[.int .u8 b.kind, .bool b.float, .bool b.delta, .bool b.mono, .slice A2 n2 k2] 24 (0, 0)) := (HBB.out.block _ (Array.getElem?_eq_some_iff.1 HZB.out).1).trans HZB.out
 go_cut [5, 6] from 36 (fun s5 s6 wx => ∃ x5 x6 P1 m1 q1 P2 m2 q2, s5 = .pointer (some ⟨x5, 0, none⟩) ∧ s6 = .pointer (some ⟨x6, 0, none⟩) ∧ wx.heap[x5]? = some (.cells #[.int .u8 a.kind, .bool a.float, .bool a.delta, .bool a.mono, .slice P1 m1 q1] 30 (0, 0)) ∧ wx.heap[x6]? = some (.cells #[.int .u8 b.kind, .bool b.float, .bool b.delta, .bool b.mono, .slice P2 m2 q2] 30 (0, 0)) ∧ Conv wx a.dots P1 m1 q1 ∧ Conv wx b.dots P2 m2 q2 ∧ Below Wb.heap.size Wb wx)
 case first => (
 as_aux_lemma => (
 have zA' : Wd.heap[w.heap.size]? = some (.cells #[.int .u8 a.kind, .bool a.float, .bool a.delta, .bool a.mono, .slice A1 n1 k1] 24 (0, 0)) := by rw [hWd]; exact zA
 have zB' : Wd.heap[w.heap.size + 1]? = some (.cells #[.int .u8 b.kind, .bool b.float, .bool b.delta, .bool b.mono, .slice A2 n2 k2] 24 (0, 0)) := by rw [hWd]; exact zB
 refine wp_region_held_drew (S := fun w' => w'.heap[w.heap.size]? = some (.cells #[.int .u8 a.kind, .bool a.float, .bool a.delta, .bool a.mono, .slice A1 n1 k1] 24 (0, 0)) ∧ w'.heap[w.heap.size + 1]? = some (.cells #[.int .u8 b.kind, .bool b.float, .bool b.delta, .bool b.mono, .slice A2 n2 k2] 24 (0, 0))) (by kernel_rfl) ⟨zA, zB⟩ (fun hHeld => ?_)
 rw [← hWd] at hHeld ⊢
 clear hWd zA zB
 have hBd : Below Wd.heap.size Wd Wd := Below.refl _ _
 have HL := Lib.hid hHeld
 refine tk 0 36 (v := .agg #[.int .u8 a.kind, .bool a.float, .bool a.delta, .bool a.mono, .slice A1 n1 k1]) (a' := ?_) rfl rfl ?_ ?_ rfl ?_
 rotate_left 1
 · intro w2 hSw; have q := hSw.1; exact run_load_all rfl hSw.1 rfl Tryz.underlying24 rfl info24'
 · simp only [sI, s0, sS]; exact rfl
 refine tk 2 38 (v := .agg #[.int .u8 b.kind, .bool b.float, .bool b.delta, .bool b.mono, .slice A2 n2 k2]) (a' := ?_) rfl rfl ?_ ?_ rfl ?_
 rotate_left 1
 · intro w2 hSw; have q := hSw.2; exact run_load_all rfl hSw.2 rfl Tryz.underlying24 rfl info24'
 · simp only [sI, s0, sS]; exact rfl
 refine wpAnyH_ready (rs := [1, 4, 5]) (by kernel_rfl) (by simp) ?_
 refine (AllReadyH.cons (o := _) rfl (fun K hK => ?_) (AllReadyH.cons (o := _) rfl (fun K hK => ?_) (AllReadyH.cons (o := _) rfl (fun K hK => ?_) AllReadyH.nil)))
 · as_aux_lemma => (
 go_simp
 refine (C10a.out Wd hBd [] (by simp)).mono ?_
 rintro e w1 ⟨P1, q1, rfl, hv1, hb1⟩
 try dsimp only
 have hB1 := below_then hBd hBd.size hb1
 have hz1 := hb1.size
 refine hK.out _ _ ⟨(hb1.block _ (Array.getElem?_eq_some_iff.1 hHeld.1).1).trans hHeld.1, (hb1.block _ (Array.getElem?_eq_some_iff.1 hHeld.2).1).trans hHeld.2⟩ (fun hHeld => ?_)
 clear hK K
 try dsimp only [Act.put]
 try simp only [Act.put, sI, s0, sS]
 refine wpAnyH_ready (rs := [3, 4, 5]) (by kernel_rfl) (by simp) ?_
 refine (AllReadyH.cons (o := _) rfl (fun K hK => ?_) (AllReadyH.cons (o := _) rfl (fun K hK => ?_) (AllReadyH.cons (o := _) rfl (fun K hK => ?_) AllReadyH.nil)))
 · as_aux_lemma => (
 go_simp
 refine (C10b.out w1 hB1 [] (by simp)).mono ?_
 rintro e w2 ⟨P2, q2, rfl, hv2, hb2⟩
 try dsimp only
 have hB2 := below_then hB1 hB1.size hb2
 have hz2 := hb2.size
 have hv1 := hv1.below hb2
 refine hK.out _ _ ⟨(hb2.block _ (Array.getElem?_eq_some_iff.1 hHeld.1).1).trans hHeld.1, (hb2.block _ (Array.getElem?_eq_some_iff.1 hHeld.2).1).trans hHeld.2⟩ (fun hHeld => ?_)
 clear hK K
 try dsimp only [Act.put]
 try simp only [Act.put, sI, s0, sS]
 refine wpAnyH_ready (rs := [4, 5]) (by kernel_rfl) (by simp) ?_
 refine (AllReadyH.cons (o := _) rfl (fun K hK => ?_) (AllReadyH.cons (o := _) rfl (fun K hK => ?_) AllReadyH.nil))
 · as_aux_lemma => (
 refine step_alloc (.cells #[.int .u8 0, .bool false, .bool false, .bool false, .slice none 0 0] 30) (fun _ => by kernel_rfl) _ (by kernel_rfl) 5 rfl ?_
 have hb3 : Below w2.heap.size w2 (w2.alloc (.cells #[.int .u8 0, .bool false, .bool false, .bool false, .slice none 0 0] 30)) := (Below.refl _ _).alloc (Nat.le_refl _) _
 have hB3 := below_then hB2 hB2.size hb3
 have hz3 : Hid ((w2.alloc (.cells #[.int .u8 0, .bool false, .bool false, .bool false, .slice none 0 0] 30)).heap.size = w2.heap.size + 1) := Lib.hid (by simp)
 have z5 : (w2.alloc (.cells #[.int .u8 0, .bool false, .bool false, .bool false, .slice none 0 0] 30)).heap[w2.heap.size]? = some (.cells #[.int .u8 0, .bool false, .bool false, .bool false, .slice none 0 0] 30 (0, 0)) := heap_alloc_new w2 _
 have hv1 := hv1.alloc (.cells #[.int .u8 0, .bool false, .bool false, .bool false, .slice none 0 0] 30)
 have hv2 := hv2.alloc (.cells #[.int .u8 0, .bool false, .bool false, .bool false, .slice none 0 0] 30)
 refine hK.out _ _ ⟨(hb3.block _ (Array.getElem?_eq_some_iff.1 hHeld.1).1).trans hHeld.1, (hb3.block _ (Array.getElem?_eq_some_iff.1 hHeld.2).1).trans hHeld.2⟩ (fun hHeld => ?_)
 clear hK K
 try dsimp only [Act.put]
 try simp only [Act.put, sI, s0, sS]
 generalize w2.alloc (.cells #[.int .u8 0, .bool false, .bool false, .bool false, .slice none 0 0] 30) = w3 at *
 refine wpAnyH_ready (rs := [5]) (by kernel_rfl) (by simp) ?_
 refine (AllReadyH.cons (o := _) rfl (fun K hK => ?_) AllReadyH.nil)
 · as_aux_lemma => (
 refine step_alloc (.cells #[.int .u8 0, .bool false, .bool false, .bool false, .slice none 0 0] 30) (fun _ => by kernel_rfl) _ (by kernel_rfl) 6 rfl ?_
 have hb4 : Below w3.heap.size w3 (w3.alloc (.cells #[.int .u8 0, .bool false, .bool false, .bool false, .slice none 0 0] 30)) := (Below.refl _ _).alloc (Nat.le_refl _) _
 have hB4 := below_then hB3 hB3.size hb4
 have hz4 : Hid ((w3.alloc (.cells #[.int .u8 0, .bool false, .bool false, .bool false, .slice none 0 0] 30)).heap.size = w3.heap.size + 1) := Lib.hid (by simp)
 have z5 := (hb4.block _ (Array.getElem?_eq_some_iff.1 z5).1).trans z5
 have z6 : (w3.alloc (.cells #[.int .u8 0, .bool false, .bool false, .bool false, .slice none 0 0] 30)).heap[w3.heap.size]? = some (.cells #[.int .u8 0, .bool false, .bool false, .bool false, .slice none 0 0] 30 (0, 0)) := heap_alloc_new w3 _
 have hv1 := hv1.alloc (.cells #[.int .u8 0, .bool false, .bool false, .bool false, .slice none 0 0] 30)
 have hv2 := hv2.alloc (.cells #[.int .u8 0, .bool false, .bool false, .bool false, .slice none 0 0] 30)
 refine hK.out _ _ ⟨(hb4.block _ (Array.getElem?_eq_some_iff.1 hHeld.1).1).trans hHeld.1, (hb4.block _ (Array.getElem?_eq_some_iff.1 hHeld.2).1).trans hHeld.2⟩ (fun hHeld => ?_)
 clear hK K
 try dsimp only [Act.put]
 try simp only [Act.put, sI, s0, sS]
 generalize w3.alloc (.cells #[.int .u8 0, .bool false, .bool false, .bool false, .slice none 0 0] 30) = w4 at *
 have hne : w2.heap.size ≠ w3.heap.size := by have := HSD.out; have := hz3.out; have := hz4.out; omega
 have hlow : Wd.heap.size ≤ w2.heap.size ∧ Wd.heap.size ≤ w3.heap.size := by have := HSD.out; have := hz3.out; have := hz4.out; have := hB4.size; omega
 refine wpAnyH_ready (rs := [6]) (by kernel_rfl) (by simp) ?_
 refine ar1 rfl (fun K hK => ?_)
 refine store_whole 30 (.tmp 5) (.tmp 37) rfl rfl 5 rfl rfl z5 ⟨rfl, rfl⟩ info30' rfl _ (by kernel_rfl) (fun u1 h31 h32 h33 h34 => ?_)
 have z6 := (h32 _ hne.symm).trans z6
 have hv1 := hv1.store (x := w2.heap.size) (by simp) h32 h34
 have hv2 := hv2.store (x := w2.heap.size) (by simp) h32 h34
 refine hK.out _ _ ⟨(h32 _ (by have := HSD.out; have := hz3.out; have := hz4.out; have := (Array.getElem?_eq_some_iff.1 HL.out.1).1; have := (Array.getElem?_eq_some_iff.1 HL.out.2).1; omega)).trans hHeld.1, (h32 _ (by have := HSD.out; have := hz3.out; have := hz4.out; have := (Array.getElem?_eq_some_iff.1 HL.out.1).1; have := (Array.getElem?_eq_some_iff.1 HL.out.2).1; omega)).trans hHeld.2⟩ (fun hHeld => ?_)
 clear hK K
 try dsimp only [Act.put]
 try simp only [Act.put, sI, s0, sS]
 refine wpAnyH_ready (rs := [7]) (by kernel_rfl) (by simp) ?_
 refine ar1 rfl (fun K hK => ?_)
 refine store_whole 30 (.tmp 6) (.tmp 39) rfl rfl 5 rfl rfl z6 ⟨rfl, rfl⟩ info30' rfl _ (by kernel_rfl) (fun u2 h41 h42 h43 h44 => ?_)
 have z5 := (h42 _ hne).trans h31
 have hv1 := hv1.store (x := w3.heap.size) (by simp) h42 h44
 have hv2 := hv2.store (x := w3.heap.size) (by simp) h42 h44
 refine hK.out _ _ ⟨(h42 _ (by have := HSD.out; have := hz3.out; have := hz4.out; have := (Array.getElem?_eq_some_iff.1 HL.out.1).1; have := (Array.getElem?_eq_some_iff.1 HL.out.2).1; omega)).trans hHeld.1, (h42 _ (by have := HSD.out; have := hz3.out; have := hz4.out; have := (Array.getElem?_eq_some_iff.1 HL.out.1).1; have := (Array.getElem?_eq_some_iff.1 HL.out.2).1; omega)).trans hHeld.2⟩ (fun hHeld => ?_)
 clear hK K
 refine wpAnyH_done (by kernel_rfl) ?_ _
 go_wp2_with fail
 go_meet
 exact ⟨_, _, P1, n1, q1, P2, n2, q2, rfl, rfl, z5, h41, hv1.conv, hv2.conv, below_then hWbd hWbd.size (h43 _ _ hlow.2 (h33 _ _ hlow.1 hB4))⟩))
 · as_aux_lemma => (
 refine step_alloc (.cells #[.int .u8 0, .bool false, .bool false, .bool false, .slice none 0 0] 30) (fun _ => by kernel_rfl) _ (by kernel_rfl) 6 rfl ?_
 have hb3 : Below w2.heap.size w2 (w2.alloc (.cells #[.int .u8 0, .bool false, .bool false, .bool false, .slice none 0 0] 30)) := (Below.refl _ _).alloc (Nat.le_refl _) _
 have hB3 := below_then hB2 hB2.size hb3
 have hz3 : Hid ((w2.alloc (.cells #[.int .u8 0, .bool false, .bool false, .bool false, .slice none 0 0] 30)).heap.size = w2.heap.size + 1) := Lib.hid (by simp)
 have z6 : (w2.alloc (.cells #[.int .u8 0, .bool false, .bool false, .bool false, .slice none 0 0] 30)).heap[w2.heap.size]? = some (.cells #[.int .u8 0, .bool false, .bool false, .bool false, .slice none 0 0] 30 (0, 0)) := heap_alloc_new w2 _
 have hv1 := hv1.alloc (.cells #[.int .u8 0, .bool false, .bool false, .bool false, .slice none 0 0] 30)
 have hv2 := hv2.alloc (.cells #[.int .u8 0, .bool false, .bool false, .bool false, .slice none 0 0] 30)
 refine hK.out _ _ ⟨(hb3.block _ (Array.getElem?_eq_some_iff.1 hHeld.1).1).trans hHeld.1, (hb3.block _ (Array.getElem?_eq_some_iff.1 hHeld.2).1).trans hHeld.2⟩ (fun hHeld => ?_)
 clear hK K
 try dsimp only [Act.put]
 try simp only [Act.put, sI, s0, sS]
 generalize w2.alloc (.cells #[.int .u8 0, .bool false, .bool false, .bool false, .slice none 0 0] 30) = w3 at *
 refine wpAnyH_ready (rs := [4]) (by kernel_rfl) (by simp) ?_
 refine (AllReadyH.cons (o := _) rfl (fun K hK => ?_) AllReadyH.nil)
 · as_aux_lemma => (
 refine step_alloc (.cells #[.int .u8 0, .bool false, .bool false, .bool false, .slice none 0 0] 30) (fun _ => by kernel_rfl) _ (by kernel_rfl) 5 rfl ?_
 have hb4 : Below w3.heap.size w3 (w3.alloc (.cells #[.int .u8 0, .bool false, .bool false, .bool false, .slice none 0 0] 30)) := (Below.refl _ _).alloc (Nat.le_refl _) _
 have hB4 := below_then hB3 hB3.size hb4
 have hz4 : Hid ((w3.alloc (.cells #[.int .u8 0, .bool false, .bool false, .bool false, .slice none 0 0] 30)).heap.size = w3.heap.size + 1) := Lib.hid (by simp)
 have z6 := (hb4.block _ (Array.getElem?_eq_some_iff.1 z6).1).trans z6
 have z5 : (w3.alloc (.cells #[.int .u8 0, .bool false, .bool false, .bool false, .slice none 0 0] 30)).heap[w3.heap.size]? = some (.cells #[.int .u8 0, .bool false, .bool false, .bool false, .slice none 0 0] 30 (0, 0)) := heap_alloc_new w3 _
 have hv1 := hv1.alloc (.cells #[.int .u8 0, .bool false, .bool false, .bool false, .slice none 0 0] 30)
 have hv2 := hv2.alloc (.cells #[.int .u8 0, .bool false, .bool false, .bool false, .slice none 0 0] 30)
 refine hK.out _ _ ⟨(hb4.block _ (Array.getElem?_eq_some_iff.1 hHeld.1).1).trans hHeld.1, (hb4.block _ (Array.getElem?_eq_some_iff.1 hHeld.2).1).trans hHeld.2⟩ (fun hHeld => ?_)
 clear hK K
 try dsimp only [Act.put]
 try simp only [Act.put, sI, s0, sS]
 generalize w3.alloc (.cells #[.int .u8 0, .bool false, .bool false, .bool false, .slice none 0 0] 30) = w4 at *
 have hne : w3.heap.size ≠ w2.heap.size := by have := HSD.out; have := hz3.out; have := hz4.out; omega
 have hlow : Wd.heap.size ≤ w3.heap.size ∧ Wd.heap.size ≤ w2.heap.size := by have := HSD.out; have := hz3.out; have := hz4.out; have := hB4.size; omega
 refine wpAnyH_ready (rs := [6]) (by kernel_rfl) (by simp) ?_
 refine ar1 rfl (fun K hK => ?_)
 refine store_whole 30 (.tmp 5) (.tmp 37) rfl rfl 5 rfl rfl z5 ⟨rfl, rfl⟩ info30' rfl _ (by kernel_rfl) (fun u1 h31 h32 h33 h34 => ?_)
 have z6 := (h32 _ hne.symm).trans z6
 have hv1 := hv1.store (x := w3.heap.size) (by simp) h32 h34
 have hv2 := hv2.store (x := w3.heap.size) (by simp) h32 h34
 refine hK.out _ _ ⟨(h32 _ (by have := HSD.out; have := hz3.out; have := hz4.out; have := (Array.getElem?_eq_some_iff.1 HL.out.1).1; have := (Array.getElem?_eq_some_iff.1 HL.out.2).1; omega)).trans hHeld.1, (h32 _ (by have := HSD.out; have := hz3.out; have := hz4.out; have := (Array.getElem?_eq_some_iff.1 HL.out.1).1; have := (Array.getElem?_eq_some_iff.1 HL.out.2).1; omega)).trans hHeld.2⟩ (fun hHeld => ?_)
 clear hK K
 try dsimp only [Act.put]
 try simp only [Act.put, sI, s0, sS]
 refine wpAnyH_ready (rs := [7]) (by kernel_rfl) (by simp) ?_
 refine ar1 rfl (fun K hK => ?_)
 refine store_whole 30 (.tmp 6) (.tmp 39) rfl rfl 5 rfl rfl z6 ⟨rfl, rfl⟩ info30' rfl _ (by kernel_rfl) (fun u2 h41 h42 h43 h44 => ?_)
 have z5 := (h42 _ hne).trans h31
 have hv1 := hv1.store (x := w2.heap.size) (by simp) h42 h44
 have hv2 := hv2.store (x := w2.heap.size) (by simp) h42 h44
 refine hK.out _ _ ⟨(h42 _ (by have := HSD.out; have := hz3.out; have := hz4.out; have := (Array.getElem?_eq_some_iff.1 HL.out.1).1; have := (Array.getElem?_eq_some_iff.1 HL.out.2).1; omega)).trans hHeld.1, (h42 _ (by have := HSD.out; have := hz3.out; have := hz4.out; have := (Array.getElem?_eq_some_iff.1 HL.out.1).1; have := (Array.getElem?_eq_some_iff.1 HL.out.2).1; omega)).trans hHeld.2⟩ (fun hHeld => ?_)
 clear hK K
 refine wpAnyH_done (by kernel_rfl) ?_ _
 go_wp2_with fail
 go_meet
 exact ⟨_, _, P1, n1, q1, P2, n2, q2, rfl, rfl, z5, h41, hv1.conv, hv2.conv, below_then hWbd hWbd.size (h43 _ _ hlow.2 (h33 _ _ hlow.1 hB4))⟩)))
 · as_aux_lemma => (
 refine step_alloc (.cells #[.int .u8 0, .bool false, .bool false, .bool false, .slice none 0 0] 30) (fun _ => by kernel_rfl) _ (by kernel_rfl) 5 rfl ?_
 have hb2 : Below w1.heap.size w1 (w1.alloc (.cells #[.int .u8 0, .bool false, .bool false, .bool false, .slice none 0 0] 30)) := (Below.refl _ _).alloc (Nat.le_refl _) _
 have hB2 := below_then hB1 hB1.size hb2
 have hz2 : Hid ((w1.alloc (.cells #[.int .u8 0, .bool false, .bool false, .bool false, .slice none 0 0] 30)).heap.size = w1.heap.size + 1) := Lib.hid (by simp)
 have z5 : (w1.alloc (.cells #[.int .u8 0, .bool false, .bool false, .bool false, .slice none 0 0] 30)).heap[w1.heap.size]? = some (.cells #[.int .u8 0, .bool false, .bool false, .bool false, .slice none 0 0] 30 (0, 0)) := heap_alloc_new w1 _
 have hv1 := hv1.alloc (.cells #[.int .u8 0, .bool false, .bool false, .bool false, .slice none 0 0] 30)
 refine hK.out _ _ ⟨(hb2.block _ (Array.getElem?_eq_some_iff.1 hHeld.1).1).trans hHeld.1, (hb2.block _ (Array.getElem?_eq_some_iff.1 hHeld.2).1).trans hHeld.2⟩ (fun hHeld => ?_)
 clear hK K
 try dsimp only [Act.put]
 try simp only [Act.put, sI, s0, sS]
 generalize w1.alloc (.cells #[.int .u8 0, .bool false, .bool false, .bool false, .slice none 0 0] 30) = w2 at *
 refine wpAnyH_ready (rs := [3, 5]) (by kernel_rfl) (by simp) ?_
 refine (AllReadyH.cons (o := _) rfl (fun K hK => ?_) (AllReadyH.cons (o := _) rfl (fun K hK => ?_) AllReadyH.nil))
 · as_aux_lemma => (
 go_simp
 refine (C10b.out w2 hB2 [w1.heap.size] (by simp only [List.mem_cons, List.not_mem_nil, or_false]; have := HSD.out; have := hz2.out; have := hB2.size; omega)).mono ?_
 rintro e w3 ⟨P2, q2, rfl, hv2, hb3⟩
 try dsimp only
 have hB3 := below_then hB2 hB2.size hb3
 have hz3 := hb3.size
 have z5 := (hb3.block _ (Array.getElem?_eq_some_iff.1 z5).1).trans z5
 have hv1 := hv1.below hb3
 refine hK.out _ _ ⟨(hb3.block _ (Array.getElem?_eq_some_iff.1 hHeld.1).1).trans hHeld.1, (hb3.block _ (Array.getElem?_eq_some_iff.1 hHeld.2).1).trans hHeld.2⟩ (fun hHeld => ?_)
 clear hK K
 try dsimp only [Act.put]
 try simp only [Act.put, sI, s0, sS]
 refine wpAnyH_ready (rs := [5]) (by kernel_rfl) (by simp) ?_
 refine (AllReadyH.cons (o := _) rfl (fun K hK => ?_) AllReadyH.nil)
 · as_aux_lemma => (
 refine step_alloc (.cells #[.int .u8 0, .bool false, .bool false, .bool false, .slice none 0 0] 30) (fun _ => by kernel_rfl) _ (by kernel_rfl) 6 rfl ?_
 have hb4 : Below w3.heap.size w3 (w3.alloc (.cells #[.int .u8 0, .bool false, .bool false, .bool false, .slice none 0 0] 30)) := (Below.refl _ _).alloc (Nat.le_refl _) _
 have hB4 := below_then hB3 hB3.size hb4
 have hz4 : Hid ((w3.alloc (.cells #[.int .u8 0, .bool false, .bool false, .bool false, .slice none 0 0] 30)).heap.size = w3.heap.size + 1) := Lib.hid (by simp)
 have z5 := (hb4.block _ (Array.getElem?_eq_some_iff.1 z5).1).trans z5
 have z6 : (w3.alloc (.cells #[.int .u8 0, .bool false, .bool false, .bool false, .slice none 0 0] 30)).heap[w3.heap.size]? = some (.cells #[.int .u8 0, .bool false, .bool false, .bool false, .slice none 0 0] 30 (0, 0)) := heap_alloc_new w3 _
 have hv1 := hv1.alloc (.cells #[.int .u8 0, .bool false, .bool false, .bool false, .slice none 0 0] 30)
 have hv2 := hv2.alloc (.cells #[.int .u8 0, .bool false, .bool false, .bool false, .slice none 0 0] 30)
 refine hK.out _ _ ⟨(hb4.block _ (Array.getElem?_eq_some_iff.1 hHeld.1).1).trans hHeld.1, (hb4.block _ (Array.getElem?_eq_some_iff.1 hHeld.2).1).trans hHeld.2⟩ (fun hHeld => ?_)
 clear hK K
 try dsimp only [Act.put]
 try simp only [Act.put, sI, s0, sS]
 generalize w3.alloc (.cells #[.int .u8 0, .bool false, .bool false, .bool false, .slice none 0 0] 30) = w4 at *
 have hne : w1.heap.size ≠ w3.heap.size := by have := HSD.out; have := hz2.out; have := hz4.out; omega
 have hlow : Wd.heap.size ≤ w1.heap.size ∧ Wd.heap.size ≤ w3.heap.size := by have := HSD.out; have := hz2.out; have := hz4.out; have := hB4.size; omega
 refine wpAnyH_ready (rs := [6]) (by kernel_rfl) (by simp) ?_
 refine ar1 rfl (fun K hK => ?_)
 refine store_whole 30 (.tmp 5) (.tmp 37) rfl rfl 5 rfl rfl z5 ⟨rfl, rfl⟩ info30' rfl _ (by kernel_rfl) (fun u1 h31 h32 h33 h34 => ?_)
 have z6 := (h32 _ hne.symm).trans z6
 have hv1 := hv1.store (x := w1.heap.size) (by simp) h32 h34
 have hv2 := hv2.store (x := w1.heap.size) (by simp) h32 h34
 refine hK.out _ _ ⟨(h32 _ (by have := HSD.out; have := hz2.out; have := hz4.out; have := (Array.getElem?_eq_some_iff.1 HL.out.1).1; have := (Array.getElem?_eq_some_iff.1 HL.out.2).1; omega)).trans hHeld.1, (h32 _ (by have := HSD.out; have := hz2.out; have := hz4.out; have := (Array.getElem?_eq_some_iff.1 HL.out.1).1; have := (Array.getElem?_eq_some_iff.1 HL.out.2).1; omega)).trans hHeld.2⟩ (fun hHeld => ?_)
 clear hK K
 try dsimp only [Act.put]
 try simp only [Act.put, sI, s0, sS]
 refine wpAnyH_ready (rs := [7]) (by kernel_rfl) (by simp) ?_
 refine ar1 rfl (fun K hK => ?_)
 refine store_whole 30 (.tmp 6) (.tmp 39) rfl rfl 5 rfl rfl z6 ⟨rfl, rfl⟩ info30' rfl _ (by kernel_rfl) (fun u2 h41 h42 h43 h44 => ?_)
 have z5 := (h42 _ hne).trans h31
 have hv1 := hv1.store (x := w3.heap.size) (by simp) h42 h44
 have hv2 := hv2.store (x := w3.heap.size) (by simp) h42 h44
 refine hK.out _ _ ⟨(h42 _ (by have := HSD.out; have := hz2.out; have := hz4.out; have := (Array.getElem?_eq_some_iff.1 HL.out.1).1; have := (Array.getElem?_eq_some_iff.1 HL.out.2).1; omega)).trans hHeld.1, (h42 _ (by have := HSD.out; have := hz2.out; have := hz4.out; have := (Array.getElem?_eq_some_iff.1 HL.out.1).1; have := (Array.getElem?_eq_some_iff.1 HL.out.2).1; omega)).trans hHeld.2⟩ (fun hHeld => ?_)
 clear hK K
 refine wpAnyH_done (by kernel_rfl) ?_ _
 go_wp2_with fail
 go_meet
 exact ⟨_, _, P1, n1, q1, P2, n2, q2, rfl, rfl, z5, h41, hv1.conv, hv2.conv, below_then hWbd hWbd.size (h43 _ _ hlow.2 (h33 _ _ hlow.1 hB4))⟩))
 · as_aux_lemma => (
 refine step_alloc (.cells #[.int .u8 0, .bool false, .bool false, .bool false, .slice none 0 0] 30) (fun _ => by kernel_rfl) _ (by kernel_rfl) 6 rfl ?_
 have hb3 : Below w2.heap.size w2 (w2.alloc (.cells #[.int .u8 0, .bool false, .bool false, .bool false, .slice none 0 0] 30)) := (Below.refl _ _).alloc (Nat.le_refl _) _
 have hB3 := below_then hB2 hB2.size hb3
 have hz3 : Hid ((w2.alloc (.cells #[.int .u8 0, .bool false, .bool false, .bool false, .slice none 0 0] 30)).heap.size = w2.heap.size + 1) := Lib.hid (by simp)
 have z5 := (hb3.block _ (Array.getElem?_eq_some_iff.1 z5).1).trans z5
 have z6 : (w2.alloc (.cells #[.int .u8 0, .bool false, .bool false, .bool false, .slice none 0 0] 30)).heap[w2.heap.size]? = some (.cells #[.int .u8 0, .bool false, .bool false, .bool false, .slice none 0 0] 30 (0, 0)) := heap_alloc_new w2 _
 have hv1 := hv1.alloc (.cells #[.int .u8 0, .bool false, .bool false, .bool false, .slice none 0 0] 30)
 refine hK.out _ _ ⟨(hb3.block _ (Array.getElem?_eq_some_iff.1 hHeld.1).1).trans hHeld.1, (hb3.block _ (Array.getElem?_eq_some_iff.1 hHeld.2).1).trans hHeld.2⟩ (fun hHeld => ?_)
 clear hK K
 try dsimp only [Act.put]
 try simp only [Act.put, sI, s0, sS]
 generalize w2.alloc (.cells #[.int .u8 0, .bool false, .bool false, .bool false, .slice none 0 0] 30) = w3 at *
 refine wpAnyH_ready (rs := [3]) (by kernel_rfl) (by simp) ?_
 refine (AllReadyH.cons (o := _) rfl (fun K hK => ?_) AllReadyH.nil)
 · as_aux_lemma => (
 go_simp
 refine (C10b.out w3 hB3 [w2.heap.size, w1.heap.size] (by simp only [List.mem_cons, List.not_mem_nil, or_false]; have := HSD.out; have := hz2.out; have := hz3.out; have := hB3.size; omega)).mono ?_
 rintro e w4 ⟨P2, q2, rfl, hv2, hb4⟩
 try dsimp only
 have hB4 := below_then hB3 hB3.size hb4
 have hz4 := hb4.size
 have z5 := (hb4.block _ (Array.getElem?_eq_some_iff.1 z5).1).trans z5
 have z6 := (hb4.block _ (Array.getElem?_eq_some_iff.1 z6).1).trans z6
 have hv1 := hv1.below hb4
 refine hK.out _ _ ⟨(hb4.block _ (Array.getElem?_eq_some_iff.1 hHeld.1).1).trans hHeld.1, (hb4.block _ (Array.getElem?_eq_some_iff.1 hHeld.2).1).trans hHeld.2⟩ (fun hHeld => ?_)
 clear hK K
 try dsimp only [Act.put]
 try simp only [Act.put, sI, s0, sS]
 have hne : w1.heap.size ≠ w2.heap.size := by have := HSD.out; have := hz2.out; have := hz3.out; omega
 have hlow : Wd.heap.size ≤ w1.heap.size ∧ Wd.heap.size ≤ w2.heap.size := by have := HSD.out; have := hz2.out; have := hz3.out; have := hB4.size; omega
 refine wpAnyH_ready (rs := [6]) (by kernel_rfl) (by simp) ?_
 refine ar1 rfl (fun K hK => ?_)
 refine store_whole 30 (.tmp 5) (.tmp 37) rfl rfl 5 rfl rfl z5 ⟨rfl, rfl⟩ info30' rfl _ (by kernel_rfl) (fun u1 h31 h32 h33 h34 => ?_)
 have z6 := (h32 _ hne.symm).trans z6
 have hv1 := hv1.store (x := w1.heap.size) (by simp) h32 h34
 have hv2 := hv2.store (x := w1.heap.size) (by simp) h32 h34
 refine hK.out _ _ ⟨(h32 _ (by have := HSD.out; have := hz2.out; have := hz3.out; have := (Array.getElem?_eq_some_iff.1 HL.out.1).1; have := (Array.getElem?_eq_some_iff.1 HL.out.2).1; omega)).trans hHeld.1, (h32 _ (by have := HSD.out; have := hz2.out; have := hz3.out; have := (Array.getElem?_eq_some_iff.1 HL.out.1).1; have := (Array.getElem?_eq_some_iff.1 HL.out.2).1; omega)).trans hHeld.2⟩ (fun hHeld => ?_)
 clear hK K
 try dsimp only [Act.put]
 try simp only [Act.put, sI, s0, sS]
 refine wpAnyH_ready (rs := [7]) (by kernel_rfl) (by simp) ?_
 refine ar1 rfl (fun K hK => ?_)
 refine store_whole 30 (.tmp 6) (.tmp 39) rfl rfl 5 rfl rfl z6 ⟨rfl, rfl⟩ info30' rfl _ (by kernel_rfl) (fun u2 h41 h42 h43 h44 => ?_)
 have z5 := (h42 _ hne).trans h31
 have hv1 := hv1.store (x := w2.heap.size) (by simp) h42 h44
 have hv2 := hv2.store (x := w2.heap.size) (by simp) h42 h44
 refine hK.out _ _ ⟨(h42 _ (by have := HSD.out; have := hz2.out; have := hz3.out; have := (Array.getElem?_eq_some_iff.1 HL.out.1).1; have := (Array.getElem?_eq_some_iff.1 HL.out.2).1; omega)).trans hHeld.1, (h42 _ (by have := HSD.out; have := hz2.out; have := hz3.out; have := (Array.getElem?_eq_some_iff.1 HL.out.1).1; have := (Array.getElem?_eq_some_iff.1 HL.out.2).1; omega)).trans hHeld.2⟩ (fun hHeld => ?_)
 clear hK K
 refine wpAnyH_done (by kernel_rfl) ?_ _
 go_wp2_with fail
 go_meet
 exact ⟨_, _, P1, n1, q1, P2, n2, q2, rfl, rfl, z5, h41, hv1.conv, hv2.conv, below_then hWbd hWbd.size (h43 _ _ hlow.2 (h33 _ _ hlow.1 hB4))⟩)))
 · as_aux_lemma => (
 refine step_alloc (.cells #[.int .u8 0, .bool false, .bool false, .bool false, .slice none 0 0] 30) (fun _ => by kernel_rfl) _ (by kernel_rfl) 6 rfl ?_
 have hb2 : Below w1.heap.size w1 (w1.alloc (.cells #[.int .u8 0, .bool false, .bool false, .bool false, .slice none 0 0] 30)) := (Below.refl _ _).alloc (Nat.le_refl _) _
 have hB2 := below_then hB1 hB1.size hb2
 have hz2 : Hid ((w1.alloc (.cells #[.int .u8 0, .bool false, .bool false, .bool false, .slice none 0 0] 30)).heap.size = w1.heap.size + 1) := Lib.hid (by simp)
 have z6 : (w1.alloc (.cells #[.int .u8 0, .bool false, .bool false, .bool false, .slice none 0 0] 30)).heap[w1.heap.size]? = some (.cells #[.int .u8 0, .bool false, .bool false, .bool false, .slice none 0 0] 30 (0, 0)) := heap_alloc_new w1 _
 have hv1 := hv1.alloc (.cells #[.int .u8 0, .bool false, .bool false, .bool false, .slice none 0 0] 30)
 refine hK.out _ _ ⟨(hb2.block _ (Array.getElem?_eq_some_iff.1 hHeld.1).1).trans hHeld.1, (hb2.block _ (Array.getElem?_eq_some_iff.1 hHeld.2).1).trans hHeld.2⟩ (fun hHeld => ?_)
 clear hK K
 try dsimp only [Act.put]
 try simp only [Act.put, sI, s0, sS]
 generalize w1.alloc (.cells #[.int .u8 0, .bool false, .bool false, .bool false, .slice none 0 0] 30) = w2 at *
 refine wpAnyH_ready (rs := [3, 4]) (by kernel_rfl) (by simp) ?_
 refine (AllReadyH.cons (o := _) rfl (fun K hK => ?_) (AllReadyH.cons (o := _) rfl (fun K hK => ?_) AllReadyH.nil))
 · as_aux_lemma => (
 go_simp
 refine (C10b.out w2 hB2 [w1.heap.size] (by simp only [List.mem_cons, List.not_mem_nil, or_false]; have := HSD.out; have := hz2.out; have := hB2.size; omega)).mono ?_
 rintro e w3 ⟨P2, q2, rfl, hv2, hb3⟩
 try dsimp only
 have hB3 := below_then hB2 hB2.size hb3
 have hz3 := hb3.size
 have z6 := (hb3.block _ (Array.getElem?_eq_some_iff.1 z6).1).trans z6
 have hv1 := hv1.below hb3
 refine hK.out _ _ ⟨(hb3.block _ (Array.getElem?_eq_some_iff.1 hHeld.1).1).trans hHeld.1, (hb3.block _ (Array.getElem?_eq_some_iff.1 hHeld.2).1).trans hHeld.2⟩ (fun hHeld => ?_)
 clear hK K
 try dsimp only [Act.put]
 try simp only [Act.put, sI, s0, sS]
 refine wpAnyH_ready (rs := [4]) (by kernel_rfl) (by simp) ?_
 refine (AllReadyH.cons (o := _) rfl (fun K hK => ?_) AllReadyH.nil)
 · as_aux_lemma => (
 refine step_alloc (.cells #[.int .u8 0, .bool false, .bool false, .bool false, .slice none 0 0] 30) (fun _ => by kernel_rfl) _ (by kernel_rfl) 5 rfl ?_
 have hb4 : Below w3.heap.size w3 (w3.alloc (.cells #[.int .u8 0, .bool false, .bool false, .bool false, .slice none 0 0] 30)) := (Below.refl _ _).alloc (Nat.le_refl _) _
 have hB4 := below_then hB3 hB3.size hb4
 have hz4 : Hid ((w3.alloc (.cells #[.int .u8 0, .bool false, .bool false, .bool false, .slice none 0 0] 30)).heap.size = w3.heap.size + 1) := Lib.hid (by simp)
 have z6 := (hb4.block _ (Array.getElem?_eq_some_iff.1 z6).1).trans z6
 have z5 : (w3.alloc (.cells #[.int .u8 0, .bool false, .bool false, .bool false, .slice none 0 0] 30)).heap[w3.heap.size]? = some (.cells #[.int .u8 0, .bool false, .bool false, .bool false, .slice none 0 0] 30 (0, 0)) := heap_alloc_new w3 _
 have hv1 := hv1.alloc (.cells #[.int .u8 0, .bool false, .bool false, .bool false, .slice none 0 0] 30)
 have hv2 := hv2.alloc (.cells #[.int .u8 0, .bool false, .bool false, .bool false, .slice none 0 0] 30)
 refine hK.out _ _ ⟨(hb4.block _ (Array.getElem?_eq_some_iff.1 hHeld.1).1).trans hHeld.1, (hb4.block _ (Array.getElem?_eq_some_iff.1 hHeld.2).1).trans hHeld.2⟩ (fun hHeld => ?_)
 clear hK K
 try dsimp only [Act.put]
 try simp only [Act.put, sI, s0, sS]
 generalize w3.alloc (.cells #[.int .u8 0, .bool false, .bool false, .bool false, .slice none 0 0] 30) = w4 at *
 have hne : w3.heap.size ≠ w1.heap.size := by have := HSD.out; have := hz2.out; have := hz4.out; omega
 have hlow : Wd.heap.size ≤ w3.heap.size ∧ Wd.heap.size ≤ w1.heap.size := by have := HSD.out; have := hz2.out; have := hz4.out; have := hB4.size; omega
 refine wpAnyH_ready (rs := [6]) (by kernel_rfl) (by simp) ?_
 refine ar1 rfl (fun K hK => ?_)
 refine store_whole 30 (.tmp 5) (.tmp 37) rfl rfl 5 rfl rfl z5 ⟨rfl, rfl⟩ info30' rfl _ (by kernel_rfl) (fun u1 h31 h32 h33 h34 => ?_)
 have z6 := (h32 _ hne.symm).trans z6
 have hv1 := hv1.store (x := w3.heap.size) (by simp) h32 h34
 have hv2 := hv2.store (x := w3.heap.size) (by simp) h32 h34
 refine hK.out _ _ ⟨(h32 _ (by have := HSD.out; have := hz2.out; have := hz4.out; have := (Array.getElem?_eq_some_iff.1 HL.out.1).1; have := (Array.getElem?_eq_some_iff.1 HL.out.2).1; omega)).trans hHeld.1, (h32 _ (by have := HSD.out; have := hz2.out; have := hz4.out; have := (Array.getElem?_eq_some_iff.1 HL.out.1).1; have := (Array.getElem?_eq_some_iff.1 HL.out.2).1; omega)).trans hHeld.2⟩ (fun hHeld => ?_)
 clear hK K
 try dsimp only [Act.put]
 try simp only [Act.put, sI, s0, sS]
 refine wpAnyH_ready (rs := [7]) (by kernel_rfl) (by simp) ?_
 refine ar1 rfl (fun K hK => ?_)
 refine store_whole 30 (.tmp 6) (.tmp 39) rfl rfl 5 rfl rfl z6 ⟨rfl, rfl⟩ info30' rfl _ (by kernel_rfl) (fun u2 h41 h42 h43 h44 => ?_)
 have z5 := (h42 _ hne).trans h31
 have hv1 := hv1.store (x := w1.heap.size) (by simp) h42 h44
 have hv2 := hv2.store (x := w1.heap.size) (by simp) h42 h44
 refine hK.out _ _ ⟨(h42 _ (by have := HSD.out; have := hz2.out; have := hz4.out; have := (Array.getElem?_eq_some_iff.1 HL.out.1).1; have := (Array.getElem?_eq_some_iff.1 HL.out.2).1; omega)).trans hHeld.1, (h42 _ (by have := HSD.out; have := hz2.out; have := hz4.out; have := (Array.getElem?_eq_some_iff.1 HL.out.1).1; have := (Array.getElem?_eq_some_iff.1 HL.out.2).1; omega)).trans hHeld.2⟩ (fun hHeld => ?_)
 clear hK K
 refine wpAnyH_done (by kernel_rfl) ?_ _
 go_wp2_with fail
 go_meet
 exact ⟨_, _, P1, n1, q1, P2, n2, q2, rfl, rfl, z5, h41, hv1.conv, hv2.conv, below_then hWbd hWbd.size (h43 _ _ hlow.2 (h33 _ _ hlow.1 hB4))⟩))
 · as_aux_lemma => (
 refine step_alloc (.cells #[.int .u8 0, .bool false, .bool false, .bool false, .slice none 0 0] 30) (fun _ => by kernel_rfl) _ (by kernel_rfl) 5 rfl ?_
 have hb3 : Below w2.heap.size w2 (w2.alloc (.cells #[.int .u8 0, .bool false, .bool false, .bool false, .slice none 0 0] 30)) := (Below.refl _ _).alloc (Nat.le_refl _) _
 have hB3 := below_then hB2 hB2.size hb3
 have hz3 : Hid ((w2.alloc (.cells #[.int .u8 0, .bool false, .bool false, .bool false, .slice none 0 0] 30)).heap.size = w2.heap.size + 1) := Lib.hid (by simp)
 have z6 := (hb3.block _ (Array.getElem?_eq_some_iff.1 z6).1).trans z6
 have z5 : (w2.alloc (.cells #[.int .u8 0, .bool false, .bool false, .bool false, .slice none 0 0] 30)).heap[w2.heap.size]? = some (.cells #[.int .u8 0, .bool false, .bool false, .bool false, .slice none 0 0] 30 (0, 0)) := heap_alloc_new w2 _
 have hv1 := hv1.alloc (.cells #[.int .u8 0, .bool false, .bool false, .bool false, .slice none 0 0] 30)
 refine hK.out _ _ ⟨(hb3.block _ (Array.getElem?_eq_some_iff.1 hHeld.1).1).trans hHeld.1, (hb3.block _ (Array.getElem?_eq_some_iff.1 hHeld.2).1).trans hHeld.2⟩ (fun hHeld => ?_)
 clear hK K
 try dsimp only [Act.put]
 try simp only [Act.put, sI, s0, sS]
 generalize w2.alloc (.cells #[.int .u8 0, .bool false, .bool false, .bool false, .slice none 0 0] 30) = w3 at *
 refine wpAnyH_ready (rs := [3]) (by kernel_rfl) (by simp) ?_
 refine (AllReadyH.cons (o := _) rfl (fun K hK => ?_) AllReadyH.nil)
 · as_aux_lemma => (
 go_simp
 refine (C10b.out w3 hB3 [w2.heap.size, w1.heap.size] (by simp only [List.mem_cons, List.not_mem_nil, or_false]; have := HSD.out; have := hz2.out; have := hz3.out; have := hB3.size; omega)).mono ?_
 rintro e w4 ⟨P2, q2, rfl, hv2, hb4⟩
 try dsimp only
 have hB4 := below_then hB3 hB3.size hb4
 have hz4 := hb4.size
 have z5 := (hb4.block _ (Array.getElem?_eq_some_iff.1 z5).1).trans z5
 have z6 := (hb4.block _ (Array.getElem?_eq_some_iff.1 z6).1).trans z6
 have hv1 := hv1.below hb4
 refine hK.out _ _ ⟨(hb4.block _ (Array.getElem?_eq_some_iff.1 hHeld.1).1).trans hHeld.1, (hb4.block _ (Array.getElem?_eq_some_iff.1 hHeld.2).1).trans hHeld.2⟩ (fun hHeld => ?_)
 clear hK K
 try dsimp only [Act.put]
 try simp only [Act.put, sI, s0, sS]
 have hne : w2.heap.size ≠ w1.heap.size := by have := HSD.out; have := hz2.out; have := hz3.out; omega
 have hlow : Wd.heap.size ≤ w2.heap.size ∧ Wd.heap.size ≤ w1.heap.size := by have := HSD.out; have := hz2.out; have := hz3.out; have := hB4.size; omega
 refine wpAnyH_ready (rs := [6]) (by kernel_rfl) (by simp) ?_
 refine ar1 rfl (fun K hK => ?_)
 refine store_whole 30 (.tmp 5) (.tmp 37) rfl rfl 5 rfl rfl z5 ⟨rfl, rfl⟩ info30' rfl _ (by kernel_rfl) (fun u1 h31 h32 h33 h34 => ?_)
 have z6 := (h32 _ hne.symm).trans z6
 have hv1 := hv1.store (x := w2.heap.size) (by simp) h32 h34
 have hv2 := hv2.store (x := w2.heap.size) (by simp) h32 h34
 refine hK.out _ _ ⟨(h32 _ (by have := HSD.out; have := hz2.out; have := hz3.out; have := (Array.getElem?_eq_some_iff.1 HL.out.1).1; have := (Array.getElem?_eq_some_iff.1 HL.out.2).1; omega)).trans hHeld.1, (h32 _ (by have := HSD.out; have := hz2.out; have := hz3.out; have := (Array.getElem?_eq_some_iff.1 HL.out.1).1; have := (Array.getElem?_eq_some_iff.1 HL.out.2).1; omega)).trans hHeld.2⟩ (fun hHeld => ?_)
 clear hK K
 try dsimp only [Act.put]
 try simp only [Act.put, sI, s0, sS]
 refine wpAnyH_ready (rs := [7]) (by kernel_rfl) (by simp) ?_
 refine ar1 rfl (fun K hK => ?_)
 refine store_whole 30 (.tmp 6) (.tmp 39) rfl rfl 5 rfl rfl z6 ⟨rfl, rfl⟩ info30' rfl _ (by kernel_rfl) (fun u2 h41 h42 h43 h44 => ?_)
 have z5 := (h42 _ hne).trans h31
 have hv1 := hv1.store (x := w1.heap.size) (by simp) h42 h44
 have hv2 := hv2.store (x := w1.heap.size) (by simp) h42 h44
 refine hK.out _ _ ⟨(h42 _ (by have := HSD.out; have := hz2.out; have := hz3.out; have := (Array.getElem?_eq_some_iff.1 HL.out.1).1; have := (Array.getElem?_eq_some_iff.1 HL.out.2).1; omega)).trans hHeld.1, (h42 _ (by have := HSD.out; have := hz2.out; have := hz3.out; have := (Array.getElem?_eq_some_iff.1 HL.out.1).1; have := (Array.getElem?_eq_some_iff.1 HL.out.2).1; omega)).trans hHeld.2⟩ (fun hHeld => ?_)
 clear hK K
 refine wpAnyH_done (by kernel_rfl) ?_ _
 go_wp2_with fail
 go_meet
 exact ⟨_, _, P1, n1, q1, P2, n2, q2, rfl, rfl, z5, h41, hv1.conv, hv2.conv, below_then hWbd hWbd.size (h43 _ _ hlow.2 (h33 _ _ hlow.1 hB4))⟩))))
 · as_aux_lemma => (
 refine step_alloc (.cells #[.int .u8 0, .bool false, .bool false, .bool false, .slice none 0 0] 30) (fun _ => by kernel_rfl) _ (by kernel_rfl) 5 rfl ?_
 have hb1 : Below Wd.heap.size Wd (Wd.alloc (.cells #[.int .u8 0, .bool false, .bool false, .bool false, .slice none 0 0] 30)) := (Below.refl _ _).alloc (Nat.le_refl _) _
 have hB1 := below_then hBd hBd.size hb1
 have hz1 : Hid ((Wd.alloc (.cells #[.int .u8 0, .bool false, .bool false, .bool false, .slice none 0 0] 30)).heap.size = Wd.heap.size + 1) := Lib.hid (by simp)
 have z5 : (Wd.alloc (.cells #[.int .u8 0, .bool false, .bool false, .bool false, .slice none 0 0] 30)).heap[Wd.heap.size]? = some (.cells #[.int .u8 0, .bool false, .bool false, .bool false, .slice none 0 0] 30 (0, 0)) := heap_alloc_new Wd _
 refine hK.out _ _ ⟨(hb1.block _ (Array.getElem?_eq_some_iff.1 hHeld.1).1).trans hHeld.1, (hb1.block _ (Array.getElem?_eq_some_iff.1 hHeld.2).1).trans hHeld.2⟩ (fun hHeld => ?_)
 clear hK K
 try dsimp only [Act.put]
 try simp only [Act.put, sI, s0, sS]
 generalize Wd.alloc (.cells #[.int .u8 0, .bool false, .bool false, .bool false, .slice none 0 0] 30) = w1 at *
 refine wpAnyH_ready (rs := [1, 5]) (by kernel_rfl) (by simp) ?_
 refine (AllReadyH.cons (o := _) rfl (fun K hK => ?_) (AllReadyH.cons (o := _) rfl (fun K hK => ?_) AllReadyH.nil))
 · as_aux_lemma => (
 go_simp
 refine (C10a.out w1 hB1 [Wd.heap.size] (by simp only [List.mem_cons, List.not_mem_nil, or_false]; have := HSD.out; have := hz1.out; have := hB1.size; omega)).mono ?_
 rintro e w2 ⟨P1, q1, rfl, hv1, hb2⟩
 try dsimp only
 have hB2 := below_then hB1 hB1.size hb2
 have hz2 := hb2.size
 have z5 := (hb2.block _ (Array.getElem?_eq_some_iff.1 z5).1).trans z5
 refine hK.out _ _ ⟨(hb2.block _ (Array.getElem?_eq_some_iff.1 hHeld.1).1).trans hHeld.1, (hb2.block _ (Array.getElem?_eq_some_iff.1 hHeld.2).1).trans hHeld.2⟩ (fun hHeld => ?_)
 clear hK K
 try dsimp only [Act.put]
 try simp only [Act.put, sI, s0, sS]
 refine wpAnyH_ready (rs := [3, 5]) (by kernel_rfl) (by simp) ?_
 refine (AllReadyH.cons (o := _) rfl (fun K hK => ?_) (AllReadyH.cons (o := _) rfl (fun K hK => ?_) AllReadyH.nil))
 · as_aux_lemma => (
 go_simp
 refine (C10b.out w2 hB2 [Wd.heap.size] (by simp only [List.mem_cons, List.not_mem_nil, or_false]; have := HSD.out; have := hz1.out; have := hB2.size; omega)).mono ?_
 rintro e w3 ⟨P2, q2, rfl, hv2, hb3⟩
 try dsimp only
 have hB3 := below_then hB2 hB2.size hb3
 have hz3 := hb3.size
 have z5 := (hb3.block _ (Array.getElem?_eq_some_iff.1 z5).1).trans z5
 have hv1 := hv1.below hb3
 refine hK.out _ _ ⟨(hb3.block _ (Array.getElem?_eq_some_iff.1 hHeld.1).1).trans hHeld.1, (hb3.block _ (Array.getElem?_eq_some_iff.1 hHeld.2).1).trans hHeld.2⟩ (fun hHeld => ?_)
 clear hK K
 try dsimp only [Act.put]
 try simp only [Act.put, sI, s0, sS]
 refine wpAnyH_ready (rs := [5]) (by kernel_rfl) (by simp) ?_
 refine (AllReadyH.cons (o := _) rfl (fun K hK => ?_) AllReadyH.nil)
 · as_aux_lemma => (
 refine step_alloc (.cells #[.int .u8 0, .bool false, .bool false, .bool false, .slice none 0 0] 30) (fun _ => by kernel_rfl) _ (by kernel_rfl) 6 rfl ?_
 have hb4 : Below w3.heap.size w3 (w3.alloc (.cells #[.int .u8 0, .bool false, .bool false, .bool false, .slice none 0 0] 30)) := (Below.refl _ _).alloc (Nat.le_refl _) _
 have hB4 := below_then hB3 hB3.size hb4
 have hz4 : Hid ((w3.alloc (.cells #[.int .u8 0, .bool false, .bool false, .bool false, .slice none 0 0] 30)).heap.size = w3.heap.size + 1) := Lib.hid (by simp)
 have z5 := (hb4.block _ (Array.getElem?_eq_some_iff.1 z5).1).trans z5
 have z6 : (w3.alloc (.cells #[.int .u8 0, .bool false, .bool false, .bool false, .slice none 0 0] 30)).heap[w3.heap.size]? = some (.cells #[.int .u8 0, .bool false, .bool false, .bool false, .slice none 0 0] 30 (0, 0)) := heap_alloc_new w3 _
 have hv1 := hv1.alloc (.cells #[.int .u8 0, .bool false, .bool false, .bool false, .slice none 0 0] 30)
 have hv2 := hv2.alloc (.cells #[.int .u8 0, .bool false, .bool false, .bool false, .slice none 0 0] 30)
 refine hK.out _ _ ⟨(hb4.block _ (Array.getElem?_eq_some_iff.1 hHeld.1).1).trans hHeld.1, (hb4.block _ (Array.getElem?_eq_some_iff.1 hHeld.2).1).trans hHeld.2⟩ (fun hHeld => ?_)
 clear hK K
 try dsimp only [Act.put]
 try simp only [Act.put, sI, s0, sS]
 generalize w3.alloc (.cells #[.int .u8 0, .bool false, .bool false, .bool false, .slice none 0 0] 30) = w4 at *
 have hne : Wd.heap.size ≠ w3.heap.size := by have := HSD.out; have := hz1.out; have := hz4.out; omega
 have hlow : Wd.heap.size ≤ Wd.heap.size ∧ Wd.heap.size ≤ w3.heap.size := by have := HSD.out; have := hz1.out; have := hz4.out; have := hB4.size; omega
 refine wpAnyH_ready (rs := [6]) (by kernel_rfl) (by simp) ?_
 refine ar1 rfl (fun K hK => ?_)
 refine store_whole 30 (.tmp 5) (.tmp 37) rfl rfl 5 rfl rfl z5 ⟨rfl, rfl⟩ info30' rfl _ (by kernel_rfl) (fun u1 h31 h32 h33 h34 => ?_)
 have z6 := (h32 _ hne.symm).trans z6
 have hv1 := hv1.store (x := Wd.heap.size) (by simp) h32 h34
 have hv2 := hv2.store (x := Wd.heap.size) (by simp) h32 h34
 refine hK.out _ _ ⟨(h32 _ (by have := HSD.out; have := hz1.out; have := hz4.out; have := (Array.getElem?_eq_some_iff.1 HL.out.1).1; have := (Array.getElem?_eq_some_iff.1 HL.out.2).1; omega)).trans hHeld.1, (h32 _ (by have := HSD.out; have := hz1.out; have := hz4.out; have := (Array.getElem?_eq_some_iff.1 HL.out.1).1; have := (Array.getElem?_eq_some_iff.1 HL.out.2).1; omega)).trans hHeld.2⟩ (fun hHeld => ?_)
 clear hK K
 try dsimp only [Act.put]
 try simp only [Act.put, sI, s0, sS]
 refine wpAnyH_ready (rs := [7]) (by kernel_rfl) (by simp) ?_
 refine ar1 rfl (fun K hK => ?_)
 refine store_whole 30 (.tmp 6) (.tmp 39) rfl rfl 5 rfl rfl z6 ⟨rfl, rfl⟩ info30' rfl _ (by kernel_rfl) (fun u2 h41 h42 h43 h44 => ?_)
 have z5 := (h42 _ hne).trans h31
 have hv1 := hv1.store (x := w3.heap.size) (by simp) h42 h44
 have hv2 := hv2.store (x := w3.heap.size) (by simp) h42 h44
 refine hK.out _ _ ⟨(h42 _ (by have := HSD.out; have := hz1.out; have := hz4.out; have := (Array.getElem?_eq_some_iff.1 HL.out.1).1; have := (Array.getElem?_eq_some_iff.1 HL.out.2).1; omega)).trans hHeld.1, (h42 _ (by have := HSD.out; have := hz1.out; have := hz4.out; have := (Array.getElem?_eq_some_iff.1 HL.out.1).1; have := (Array.getElem?_eq_some_iff.1 HL.out.2).1; omega)).trans hHeld.2⟩ (fun hHeld => ?_)
 clear hK K
 refine wpAnyH_done (by kernel_rfl) ?_ _
 go_wp2_with fail
 go_meet
 exact ⟨_, _, P1, n1, q1, P2, n2, q2, rfl, rfl, z5, h41, hv1.conv, hv2.conv, below_then hWbd hWbd.size (h43 _ _ hlow.2 (h33 _ _ hlow.1 hB4))⟩))
 · as_aux_lemma => (
 refine step_alloc (.cells #[.int .u8 0, .bool false, .bool false, .bool false, .slice none 0 0] 30) (fun _ => by kernel_rfl) _ (by kernel_rfl) 6 rfl ?_
 have hb3 : Below w2.heap.size w2 (w2.alloc (.cells #[.int .u8 0, .bool false, .bool false, .bool false, .slice none 0 0] 30)) := (Below.refl _ _).alloc (Nat.le_refl _) _
 have hB3 := below_then hB2 hB2.size hb3
 have hz3 : Hid ((w2.alloc (.cells #[.int .u8 0, .bool false, .bool false, .bool false, .slice none 0 0] 30)).heap.size = w2.heap.size + 1) := Lib.hid (by simp)
 have z5 := (hb3.block _ (Array.getElem?_eq_some_iff.1 z5).1).trans z5
 have z6 : (w2.alloc (.cells #[.int .u8 0, .bool false, .bool false, .bool false, .slice none 0 0] 30)).heap[w2.heap.size]? = some (.cells #[.int .u8 0, .bool false, .bool false, .bool false, .slice none 0 0] 30 (0, 0)) := heap_alloc_new w2 _
 have hv1 := hv1.alloc (.cells #[.int .u8 0, .bool false, .bool false, .bool false, .slice none 0 0] 30)
 refine hK.out _ _ ⟨(hb3.block _ (Array.getElem?_eq_some_iff.1 hHeld.1).1).trans hHeld.1, (hb3.block _ (Array.getElem?_eq_some_iff.1 hHeld.2).1).trans hHeld.2⟩ (fun hHeld => ?_)
 clear hK K
 try dsimp only [Act.put]
 try simp only [Act.put, sI, s0, sS]
 generalize w2.alloc (.cells #[.int .u8 0, .bool false, .bool false, .bool false, .slice none 0 0] 30) = w3 at *
 refine wpAnyH_ready (rs := [3]) (by kernel_rfl) (by simp) ?_
 refine (AllReadyH.cons (o := _) rfl (fun K hK => ?_) AllReadyH.nil)
 · as_aux_lemma => (
 go_simp
 refine (C10b.out w3 hB3 [w2.heap.size, Wd.heap.size] (by simp only [List.mem_cons, List.not_mem_nil, or_false]; have := HSD.out; have := hz1.out; have := hz3.out; have := hB3.size; omega)).mono ?_
 rintro e w4 ⟨P2, q2, rfl, hv2, hb4⟩
 try dsimp only
 have hB4 := below_then hB3 hB3.size hb4
 have hz4 := hb4.size
 have z5 := (hb4.block _ (Array.getElem?_eq_some_iff.1 z5).1).trans z5
 have z6 := (hb4.block _ (Array.getElem?_eq_some_iff.1 z6).1).trans z6
 have hv1 := hv1.below hb4
 refine hK.out _ _ ⟨(hb4.block _ (Array.getElem?_eq_some_iff.1 hHeld.1).1).trans hHeld.1, (hb4.block _ (Array.getElem?_eq_some_iff.1 hHeld.2).1).trans hHeld.2⟩ (fun hHeld => ?_)
 clear hK K
 try dsimp only [Act.put]
 try simp only [Act.put, sI, s0, sS]
 have hne : Wd.heap.size ≠ w2.heap.size := by have := HSD.out; have := hz1.out; have := hz3.out; omega
 have hlow : Wd.heap.size ≤ Wd.heap.size ∧ Wd.heap.size ≤ w2.heap.size := by have := HSD.out; have := hz1.out; have := hz3.out; have := hB4.size; omega
 refine wpAnyH_ready (rs := [6]) (by kernel_rfl) (by simp) ?_
 refine ar1 rfl (fun K hK => ?_)
 refine store_whole 30 (.tmp 5) (.tmp 37) rfl rfl 5 rfl rfl z5 ⟨rfl, rfl⟩ info30' rfl _ (by kernel_rfl) (fun u1 h31 h32 h33 h34 => ?_)
 have z6 := (h32 _ hne.symm).trans z6
 have hv1 := hv1.store (x := Wd.heap.size) (by simp) h32 h34
 have hv2 := hv2.store (x := Wd.heap.size) (by simp) h32 h34
 refine hK.out _ _ ⟨(h32 _ (by have := HSD.out; have := hz1.out; have := hz3.out; have := (Array.getElem?_eq_some_iff.1 HL.out.1).1; have := (Array.getElem?_eq_some_iff.1 HL.out.2).1; omega)).trans hHeld.1, (h32 _ (by have := HSD.out; have := hz1.out; have := hz3.out; have := (Array.getElem?_eq_some_iff.1 HL.out.1).1; have := (Array.getElem?_eq_some_iff.1 HL.out.2).1; omega)).trans hHeld.2⟩ (fun hHeld => ?_)
 clear hK K
 try dsimp only [Act.put]
 try simp only [Act.put, sI, s0, sS]
 refine wpAnyH_ready (rs := [7]) (by kernel_rfl) (by simp) ?_
 refine ar1 rfl (fun K hK => ?_)
 refine store_whole 30 (.tmp 6) (.tmp 39) rfl rfl 5 rfl rfl z6 ⟨rfl, rfl⟩ info30' rfl _ (by kernel_rfl) (fun u2 h41 h42 h43 h44 => ?_)
 have z5 := (h42 _ hne).trans h31
 have hv1 := hv1.store (x := w2.heap.size) (by simp) h42 h44
 have hv2 := hv2.store (x := w2.heap.size) (by simp) h42 h44
 refine hK.out _ _ ⟨(h42 _ (by have := HSD.out; have := hz1.out; have := hz3.out; have := (Array.getElem?_eq_some_iff.1 HL.out.1).1; have := (Array.getElem?_eq_some_iff.1 HL.out.2).1; omega)).trans hHeld.1, (h42 _ (by have := HSD.out; have := hz1.out; have := hz3.out; have := (Array.getElem?_eq_some_iff.1 HL.out.1).1; have := (Array.getElem?_eq_some_iff.1 HL.out.2).1; omega)).trans hHeld.2⟩ (fun hHeld => ?_)
 clear hK K
 refine wpAnyH_done (by kernel_rfl) ?_ _
 go_wp2_with fail
 go_meet
 exact ⟨_, _, P1, n1, q1, P2, n2, q2, rfl, rfl, z5, h41, hv1.conv, hv2.conv, below_then hWbd hWbd.size (h43 _ _ hlow.2 (h33 _ _ hlow.1 hB4))⟩)))
 · as_aux_lemma => (
 refine step_alloc (.cells #[.int .u8 0, .bool false, .bool false, .bool false, .slice none 0 0] 30) (fun _ => by kernel_rfl) _ (by kernel_rfl) 6 rfl ?_
 have hb2 : Below w1.heap.size w1 (w1.alloc (.cells #[.int .u8 0, .bool false, .bool false, .bool false, .slice none 0 0] 30)) := (Below.refl _ _).alloc (Nat.le_refl _) _
 have hB2 := below_then hB1 hB1.size hb2
 have hz2 : Hid ((w1.alloc (.cells #[.int .u8 0, .bool false, .bool false, .bool false, .slice none 0 0] 30)).heap.size = w1.heap.size + 1) := Lib.hid (by simp)
 have z5 := (hb2.block _ (Array.getElem?_eq_some_iff.1 z5).1).trans z5
 have z6 : (w1.alloc (.cells #[.int .u8 0, .bool false, .bool false, .bool false, .slice none 0 0] 30)).heap[w1.heap.size]? = some (.cells #[.int .u8 0, .bool false, .bool false, .bool false, .slice none 0 0] 30 (0, 0)) := heap_alloc_new w1 _
 refine hK.out _ _ ⟨(hb2.block _ (Array.getElem?_eq_some_iff.1 hHeld.1).1).trans hHeld.1, (hb2.block _ (Array.getElem?_eq_some_iff.1 hHeld.2).1).trans hHeld.2⟩ (fun hHeld => ?_)
 clear hK K
 try dsimp only [Act.put]
 try simp only [Act.put, sI, s0, sS]
 generalize w1.alloc (.cells #[.int .u8 0, .bool false, .bool false, .bool false, .slice none 0 0] 30) = w2 at *
 refine wpAnyH_ready (rs := [1]) (by kernel_rfl) (by simp) ?_
 refine (AllReadyH.cons (o := _) rfl (fun K hK => ?_) AllReadyH.nil)
 · as_aux_lemma => (
 go_simp
 refine (C10a.out w2 hB2 [w1.heap.size, Wd.heap.size] (by simp only [List.mem_cons, List.not_mem_nil, or_false]; have := HSD.out; have := hz1.out; have := hz2.out; have := hB2.size; omega)).mono ?_
 rintro e w3 ⟨P1, q1, rfl, hv1, hb3⟩
 try dsimp only
 have hB3 := below_then hB2 hB2.size hb3
 have hz3 := hb3.size
 have z5 := (hb3.block _ (Array.getElem?_eq_some_iff.1 z5).1).trans z5
 have z6 := (hb3.block _ (Array.getElem?_eq_some_iff.1 z6).1).trans z6
 refine hK.out _ _ ⟨(hb3.block _ (Array.getElem?_eq_some_iff.1 hHeld.1).1).trans hHeld.1, (hb3.block _ (Array.getElem?_eq_some_iff.1 hHeld.2).1).trans hHeld.2⟩ (fun hHeld => ?_)
 clear hK K
 try dsimp only [Act.put]
 try simp only [Act.put, sI, s0, sS]
 refine wpAnyH_ready (rs := [3]) (by kernel_rfl) (by simp) ?_
 refine (AllReadyH.cons (o := _) rfl (fun K hK => ?_) AllReadyH.nil)
 · as_aux_lemma => (
 go_simp
 refine (C10b.out w3 hB3 [w1.heap.size, Wd.heap.size] (by simp only [List.mem_cons, List.not_mem_nil, or_false]; have := HSD.out; have := hz1.out; have := hz2.out; have := hB3.size; omega)).mono ?_
 rintro e w4 ⟨P2, q2, rfl, hv2, hb4⟩
 try dsimp only
 have hB4 := below_then hB3 hB3.size hb4
 have hz4 := hb4.size
 have z5 := (hb4.block _ (Array.getElem?_eq_some_iff.1 z5).1).trans z5
 have z6 := (hb4.block _ (Array.getElem?_eq_some_iff.1 z6).1).trans z6
 have hv1 := hv1.below hb4
 refine hK.out _ _ ⟨(hb4.block _ (Array.getElem?_eq_some_iff.1 hHeld.1).1).trans hHeld.1, (hb4.block _ (Array.getElem?_eq_some_iff.1 hHeld.2).1).trans hHeld.2⟩ (fun hHeld => ?_)
 clear hK K
 try dsimp only [Act.put]
 try simp only [Act.put, sI, s0, sS]
 have hne : Wd.heap.size ≠ w1.heap.size := by have := HSD.out; have := hz1.out; have := hz2.out; omega
 have hlow : Wd.heap.size ≤ Wd.heap.size ∧ Wd.heap.size ≤ w1.heap.size := by have := HSD.out; have := hz1.out; have := hz2.out; have := hB4.size; omega
 refine wpAnyH_ready (rs := [6]) (by kernel_rfl) (by simp) ?_
 refine ar1 rfl (fun K hK => ?_)
 refine store_whole 30 (.tmp 5) (.tmp 37) rfl rfl 5 rfl rfl z5 ⟨rfl, rfl⟩ info30' rfl _ (by kernel_rfl) (fun u1 h31 h32 h33 h34 => ?_)
 have z6 := (h32 _ hne.symm).trans z6
 have hv1 := hv1.store (x := Wd.heap.size) (by simp) h32 h34
 have hv2 := hv2.store (x := Wd.heap.size) (by simp) h32 h34
 refine hK.out _ _ ⟨(h32 _ (by have := HSD.out; have := hz1.out; have := hz2.out; have := (Array.getElem?_eq_some_iff.1 HL.out.1).1; have := (Array.getElem?_eq_some_iff.1 HL.out.2).1; omega)).trans hHeld.1, (h32 _ (by have := HSD.out; have := hz1.out; have := hz2.out; have := (Array.getElem?_eq_some_iff.1 HL.out.1).1; have := (Array.getElem?_eq_some_iff.1 HL.out.2).1; omega)).trans hHeld.2⟩ (fun hHeld => ?_)
 clear hK K
 try dsimp only [Act.put]
 try simp only [Act.put, sI, s0, sS]
 refine wpAnyH_ready (rs := [7]) (by kernel_rfl) (by simp) ?_
 refine ar1 rfl (fun K hK => ?_)
 refine store_whole 30 (.tmp 6) (.tmp 39) rfl rfl 5 rfl rfl z6 ⟨rfl, rfl⟩ info30' rfl _ (by kernel_rfl) (fun u2 h41 h42 h43 h44 => ?_)
 have z5 := (h42 _ hne).trans h31
 have hv1 := hv1.store (x := w1.heap.size) (by simp) h42 h44
 have hv2 := hv2.store (x := w1.heap.size) (by simp) h42 h44
 refine hK.out _ _ ⟨(h42 _ (by have := HSD.out; have := hz1.out; have := hz2.out; have := (Array.getElem?_eq_some_iff.1 HL.out.1).1; have := (Array.getElem?_eq_some_iff.1 HL.out.2).1; omega)).trans hHeld.1, (h42 _ (by have := HSD.out; have := hz1.out; have := hz2.out; have := (Array.getElem?_eq_some_iff.1 HL.out.1).1; have := (Array.getElem?_eq_some_iff.1 HL.out.2).1; omega)).trans hHeld.2⟩ (fun hHeld => ?_)
 clear hK K
 refine wpAnyH_done (by kernel_rfl) ?_ _
 go_wp2_with fail
 go_meet
 exact ⟨_, _, P1, n1, q1, P2, n2, q2, rfl, rfl, z5, h41, hv1.conv, hv2.conv, below_then hWbd hWbd.size (h43 _ _ hlow.2 (h33 _ _ hlow.1 hB4))⟩))))
 · as_aux_lemma => (
 refine step_alloc (.cells #[.int .u8 0, .bool false, .bool false, .bool false, .slice none 0 0] 30) (fun _ => by kernel_rfl) _ (by kernel_rfl) 6 rfl ?_
 have hb1 : Below Wd.heap.size Wd (Wd.alloc (.cells #[.int .u8 0, .bool false, .bool false, .bool false, .slice none 0 0] 30)) := (Below.refl _ _).alloc (Nat.le_refl _) _
 have hB1 := below_then hBd hBd.size hb1
 have hz1 : Hid ((Wd.alloc (.cells #[.int .u8 0, .bool false, .bool false, .bool false, .slice none 0 0] 30)).heap.size = Wd.heap.size + 1) := Lib.hid (by simp)
 have z6 : (Wd.alloc (.cells #[.int .u8 0, .bool false, .bool false, .bool false, .slice none 0 0] 30)).heap[Wd.heap.size]? = some (.cells #[.int .u8 0, .bool false, .bool false, .bool false, .slice none 0 0] 30 (0, 0)) := heap_alloc_new Wd _
 refine hK.out _ _ ⟨(hb1.block _ (Array.getElem?_eq_some_iff.1 hHeld.1).1).trans hHeld.1, (hb1.block _ (Array.getElem?_eq_some_iff.1 hHeld.2).1).trans hHeld.2⟩ (fun hHeld => ?_)
 clear hK K
 try dsimp only [Act.put]
 try simp only [Act.put, sI, s0, sS]
 generalize Wd.alloc (.cells #[.int .u8 0, .bool false, .bool false, .bool false, .slice none 0 0] 30) = w1 at *
 refine wpAnyH_ready (rs := [1, 4]) (by kernel_rfl) (by simp) ?_
 refine (AllReadyH.cons (o := _) rfl (fun K hK => ?_) (AllReadyH.cons (o := _) rfl (fun K hK => ?_) AllReadyH.nil))
 · as_aux_lemma => (
 go_simp
 refine (C10a.out w1 hB1 [Wd.heap.size] (by simp only [List.mem_cons, List.not_mem_nil, or_false]; have := HSD.out; have := hz1.out; have := hB1.size; omega)).mono ?_
 rintro e w2 ⟨P1, q1, rfl, hv1, hb2⟩
 try dsimp only
 have hB2 := below_then hB1 hB1.size hb2
 have hz2 := hb2.size
 have z6 := (hb2.block _ (Array.getElem?_eq_some_iff.1 z6).1).trans z6
 refine hK.out _ _ ⟨(hb2.block _ (Array.getElem?_eq_some_iff.1 hHeld.1).1).trans hHeld.1, (hb2.block _ (Array.getElem?_eq_some_iff.1 hHeld.2).1).trans hHeld.2⟩ (fun hHeld => ?_)
 clear hK K
 try dsimp only [Act.put]
 try simp only [Act.put, sI, s0, sS]
 refine wpAnyH_ready (rs := [3, 4]) (by kernel_rfl) (by simp) ?_
 refine (AllReadyH.cons (o := _) rfl (fun K hK => ?_) (AllReadyH.cons (o := _) rfl (fun K hK => ?_) AllReadyH.nil))
 · as_aux_lemma => (
 go_simp
 refine (C10b.out w2 hB2 [Wd.heap.size] (by simp only [List.mem_cons, List.not_mem_nil, or_false]; have := HSD.out; have := hz1.out; have := hB2.size; omega)).mono ?_
 rintro e w3 ⟨P2, q2, rfl, hv2, hb3⟩
 try dsimp only
 have hB3 := below_then hB2 hB2.size hb3
 have hz3 := hb3.size
 have z6 := (hb3.block _ (Array.getElem?_eq_some_iff.1 z6).1).trans z6
 have hv1 := hv1.below hb3
 refine hK.out _ _ ⟨(hb3.block _ (Array.getElem?_eq_some_iff.1 hHeld.1).1).trans hHeld.1, (hb3.block _ (Array.getElem?_eq_some_iff.1 hHeld.2).1).trans hHeld.2⟩ (fun hHeld => ?_)
 clear hK K
 try dsimp only [Act.put]
 try simp only [Act.put, sI, s0, sS]
 refine wpAnyH_ready (rs := [4]) (by kernel_rfl) (by simp) ?_
 refine (AllReadyH.cons (o := _) rfl (fun K hK => ?_) AllReadyH.nil)
 · as_aux_lemma => (
 refine step_alloc (.cells #[.int .u8 0, .bool false, .bool false, .bool false, .slice none 0 0] 30) (fun _ => by kernel_rfl) _ (by kernel_rfl) 5 rfl ?_
 have hb4 : Below w3.heap.size w3 (w3.alloc (.cells #[.int .u8 0, .bool false, .bool false, .bool false, .slice none 0 0] 30)) := (Below.refl _ _).alloc (Nat.le_refl _) _
 have hB4 := below_then hB3 hB3.size hb4
 have hz4 : Hid ((w3.alloc (.cells #[.int .u8 0, .bool false, .bool false, .bool false, .slice none 0 0] 30)).heap.size = w3.heap.size + 1) := Lib.hid (by simp)
 have z6 := (hb4.block _ (Array.getElem?_eq_some_iff.1 z6).1).trans z6
 have z5 : (w3.alloc (.cells #[.int .u8 0, .bool false, .bool false, .bool false, .slice none 0 0] 30)).heap[w3.heap.size]? = some (.cells #[.int .u8 0, .bool false, .bool false, .bool false, .slice none 0 0] 30 (0, 0)) := heap_alloc_new w3 _
 have hv1 := hv1.alloc (.cells #[.int .u8 0, .bool false, .bool false, .bool false, .slice none 0 0] 30)
 have hv2 := hv2.alloc (.cells #[.int .u8 0, .bool false, .bool false, .bool false, .slice none 0 0] 30)
 refine hK.out _ _ ⟨(hb4.block _ (Array.getElem?_eq_some_iff.1 hHeld.1).1).trans hHeld.1, (hb4.block _ (Array.getElem?_eq_some_iff.1 hHeld.2).1).trans hHeld.2⟩ (fun hHeld => ?_)
 clear hK K
 try dsimp only [Act.put]
 try simp only [Act.put, sI, s0, sS]
 generalize w3.alloc (.cells #[.int .u8 0, .bool false, .bool false, .bool false, .slice none 0 0] 30) = w4 at *
 have hne : w3.heap.size ≠ Wd.heap.size := by have := HSD.out; have := hz1.out; have := hz4.out; omega
 have hlow : Wd.heap.size ≤ w3.heap.size ∧ Wd.heap.size ≤ Wd.heap.size := by have := HSD.out; have := hz1.out; have := hz4.out; have := hB4.size; omega
 refine wpAnyH_ready (rs := [6]) (by kernel_rfl) (by simp) ?_
 refine ar1 rfl (fun K hK => ?_)
 refine store_whole 30 (.tmp 5) (.tmp 37) rfl rfl 5 rfl rfl z5 ⟨rfl, rfl⟩ info30' rfl _ (by kernel_rfl) (fun u1 h31 h32 h33 h34 => ?_)
 have z6 := (h32 _ hne.symm).trans z6
 have hv1 := hv1.store (x := w3.heap.size) (by simp) h32 h34
 have hv2 := hv2.store (x := w3.heap.size) (by simp) h32 h34
 refine hK.out _ _ ⟨(h32 _ (by have := HSD.out; have := hz1.out; have := hz4.out; have := (Array.getElem?_eq_some_iff.1 HL.out.1).1; have := (Array.getElem?_eq_some_iff.1 HL.out.2).1; omega)).trans hHeld.1, (h32 _ (by have := HSD.out; have := hz1.out; have := hz4.out; have := (Array.getElem?_eq_some_iff.1 HL.out.1).1; have := (Array.getElem?_eq_some_iff.1 HL.out.2).1; omega)).trans hHeld.2⟩ (fun hHeld => ?_)
 clear hK K
 try dsimp only [Act.put]
 try simp only [Act.put, sI, s0, sS]
 refine wpAnyH_ready (rs := [7]) (by kernel_rfl) (by simp) ?_
 refine ar1 rfl (fun K hK => ?_)
 refine store_whole 30 (.tmp 6) (.tmp 39) rfl rfl 5 rfl rfl z6 ⟨rfl, rfl⟩ info30' rfl _ (by kernel_rfl) (fun u2 h41 h42 h43 h44 => ?_)
 have z5 := (h42 _ hne).trans h31
 have hv1 := hv1.store (x := Wd.heap.size) (by simp) h42 h44
 have hv2 := hv2.store (x := Wd.heap.size) (by simp) h42 h44
 refine hK.out _ _ ⟨(h42 _ (by have := HSD.out; have := hz1.out; have := hz4.out; have := (Array.getElem?_eq_some_iff.1 HL.out.1).1; have := (Array.getElem?_eq_some_iff.1 HL.out.2).1; omega)).trans hHeld.1, (h42 _ (by have := HSD.out; have := hz1.out; have := hz4.out; have := (Array.getElem?_eq_some_iff.1 HL.out.1).1; have := (Array.getElem?_eq_some_iff.1 HL.out.2).1; omega)).trans hHeld.2⟩ (fun hHeld => ?_)
 clear hK K
 refine wpAnyH_done (by kernel_rfl) ?_ _
 go_wp2_with fail
 go_meet
 exact ⟨_, _, P1, n1, q1, P2, n2, q2, rfl, rfl, z5, h41, hv1.conv, hv2.conv, below_then hWbd hWbd.size (h43 _ _ hlow.2 (h33 _ _ hlow.1 hB4))⟩))
 · as_aux_lemma => (
 refine step_alloc (.cells #[.int .u8 0, .bool false, .bool false, .bool false, .slice none 0 0] 30) (fun _ => by kernel_rfl) _ (by kernel_rfl) 5 rfl ?_
 have hb3 : Below w2.heap.size w2 (w2.alloc (.cells #[.int .u8 0, .bool false, .bool false, .bool false, .slice none 0 0] 30)) := (Below.refl _ _).alloc (Nat.le_refl _) _
 have hB3 := below_then hB2 hB2.size hb3
 have hz3 : Hid ((w2.alloc (.cells #[.int .u8 0, .bool false, .bool false, .bool false, .slice none 0 0] 30)).heap.size = w2.heap.size + 1) := Lib.hid (by simp)
 have z6 := (hb3.block _ (Array.getElem?_eq_some_iff.1 z6).1).trans z6
 have z5 : (w2.alloc (.cells #[.int .u8 0, .bool false, .bool false, .bool false, .slice none 0 0] 30)).heap[w2.heap.size]? = some (.cells #[.int .u8 0, .bool false, .bool false, .bool false, .slice none 0 0] 30 (0, 0)) := heap_alloc_new w2 _
 have hv1 := hv1.alloc (.cells #[.int .u8 0, .bool false, .bool false, .bool false, .slice none 0 0] 30)
 refine hK.out _ _ ⟨(hb3.block _ (Array.getElem?_eq_some_iff.1 hHeld.1).1).trans hHeld.1, (hb3.block _ (Array.getElem?_eq_some_iff.1 hHeld.2).1).trans hHeld.2⟩ (fun hHeld => ?_)
 clear hK K
 try dsimp only [Act.put]
 try simp only [Act.put, sI, s0, sS]
 generalize w2.alloc (.cells #[.int .u8 0, .bool false, .bool false, .bool false, .slice none 0 0] 30) = w3 at *
 refine wpAnyH_ready (rs := [3]) (by kernel_rfl) (by simp) ?_
 refine (AllReadyH.cons (o := _) rfl (fun K hK => ?_) AllReadyH.nil)
 · as_aux_lemma => (
 go_simp
 refine (C10b.out w3 hB3 [w2.heap.size, Wd.heap.size] (by simp only [List.mem_cons, List.not_mem_nil, or_false]; have := HSD.out; have := hz1.out; have := hz3.out; have := hB3.size; omega)).mono ?_
 rintro e w4 ⟨P2, q2, rfl, hv2, hb4⟩
 try dsimp only
 have hB4 := below_then hB3 hB3.size hb4
 have hz4 := hb4.size
 have z5 := (hb4.block _ (Array.getElem?_eq_some_iff.1 z5).1).trans z5
 have z6 := (hb4.block _ (Array.getElem?_eq_some_iff.1 z6).1).trans z6
 have hv1 := hv1.below hb4
 refine hK.out _ _ ⟨(hb4.block _ (Array.getElem?_eq_some_iff.1 hHeld.1).1).trans hHeld.1, (hb4.block _ (Array.getElem?_eq_some_iff.1 hHeld.2).1).trans hHeld.2⟩ (fun hHeld => ?_)
 clear hK K
 try dsimp only [Act.put]
 try simp only [Act.put, sI, s0, sS]
 have hne : w2.heap.size ≠ Wd.heap.size := by have := HSD.out; have := hz1.out; have := hz3.out; omega
 have hlow : Wd.heap.size ≤ w2.heap.size ∧ Wd.heap.size ≤ Wd.heap.size := by have := HSD.out; have := hz1.out; have := hz3.out; have := hB4.size; omega
 refine wpAnyH_ready (rs := [6]) (by kernel_rfl) (by simp) ?_
 refine ar1 rfl (fun K hK => ?_)
 refine store_whole 30 (.tmp 5) (.tmp 37) rfl rfl 5 rfl rfl z5 ⟨rfl, rfl⟩ info30' rfl _ (by kernel_rfl) (fun u1 h31 h32 h33 h34 => ?_)
 have z6 := (h32 _ hne.symm).trans z6
 have hv1 := hv1.store (x := w2.heap.size) (by simp) h32 h34
 have hv2 := hv2.store (x := w2.heap.size) (by simp) h32 h34
 refine hK.out _ _ ⟨(h32 _ (by have := HSD.out; have := hz1.out; have := hz3.out; have := (Array.getElem?_eq_some_iff.1 HL.out.1).1; have := (Array.getElem?_eq_some_iff.1 HL.out.2).1; omega)).trans hHeld.1, (h32 _ (by have := HSD.out; have := hz1.out; have := hz3.out; have := (Array.getElem?_eq_some_iff.1 HL.out.1).1; have := (Array.getElem?_eq_some_iff.1 HL.out.2).1; omega)).trans hHeld.2⟩ (fun hHeld => ?_)
 clear hK K
 try dsimp only [Act.put]
 try simp only [Act.put, sI, s0, sS]
 refine wpAnyH_ready (rs := [7]) (by kernel_rfl) (by simp) ?_
 refine ar1 rfl (fun K hK => ?_)
 refine store_whole 30 (.tmp 6) (.tmp 39) rfl rfl 5 rfl rfl z6 ⟨rfl, rfl⟩ info30' rfl _ (by kernel_rfl) (fun u2 h41 h42 h43 h44 => ?_)
 have z5 := (h42 _ hne).trans h31
 have hv1 := hv1.store (x := Wd.heap.size) (by simp) h42 h44
 have hv2 := hv2.store (x := Wd.heap.size) (by simp) h42 h44
 refine hK.out _ _ ⟨(h42 _ (by have := HSD.out; have := hz1.out; have := hz3.out; have := (Array.getElem?_eq_some_iff.1 HL.out.1).1; have := (Array.getElem?_eq_some_iff.1 HL.out.2).1; omega)).trans hHeld.1, (h42 _ (by have := HSD.out; have := hz1.out; have := hz3.out; have := (Array.getElem?_eq_some_iff.1 HL.out.1).1; have := (Array.getElem?_eq_some_iff.1 HL.out.2).1; omega)).trans hHeld.2⟩ (fun hHeld => ?_)
 clear hK K
 refine wpAnyH_done (by kernel_rfl) ?_ _
 go_wp2_with fail
 go_meet
 exact ⟨_, _, P1, n1, q1, P2, n2, q2, rfl, rfl, z5, h41, hv1.conv, hv2.conv, below_then hWbd hWbd.size (h43 _ _ hlow.2 (h33 _ _ hlow.1 hB4))⟩)))
 · as_aux_lemma => (
 refine step_alloc (.cells #[.int .u8 0, .bool false, .bool false, .bool false, .slice none 0 0] 30) (fun _ => by kernel_rfl) _ (by kernel_rfl) 5 rfl ?_
 have hb2 : Below w1.heap.size w1 (w1.alloc (.cells #[.int .u8 0, .bool false, .bool false, .bool false, .slice none 0 0] 30)) := (Below.refl _ _).alloc (Nat.le_refl _) _
 have hB2 := below_then hB1 hB1.size hb2
 have hz2 : Hid ((w1.alloc (.cells #[.int .u8 0, .bool false, .bool false, .bool false, .slice none 0 0] 30)).heap.size = w1.heap.size + 1) := Lib.hid (by simp)
 have z6 := (hb2.block _ (Array.getElem?_eq_some_iff.1 z6).1).trans z6
 have z5 : (w1.alloc (.cells #[.int .u8 0, .bool false, .bool false, .bool false, .slice none 0 0] 30)).heap[w1.heap.size]? = some (.cells #[.int .u8 0, .bool false, .bool false, .bool false, .slice none 0 0] 30 (0, 0)) := heap_alloc_new w1 _
 refine hK.out _ _ ⟨(hb2.block _ (Array.getElem?_eq_some_iff.1 hHeld.1).1).trans hHeld.1, (hb2.block _ (Array.getElem?_eq_some_iff.1 hHeld.2).1).trans hHeld.2⟩ (fun hHeld => ?_)
 clear hK K
 try dsimp only [Act.put]
 try simp only [Act.put, sI, s0, sS]
 generalize w1.alloc (.cells #[.int .u8 0, .bool false, .bool false, .bool false, .slice none 0 0] 30) = w2 at *
 refine wpAnyH_ready (rs := [1]) (by kernel_rfl) (by simp) ?_
 refine (AllReadyH.cons (o := _) rfl (fun K hK => ?_) AllReadyH.nil)
 · as_aux_lemma => (
 go_simp
 refine (C10a.out w2 hB2 [w1.heap.size, Wd.heap.size] (by simp only [List.mem_cons, List.not_mem_nil, or_false]; have := HSD.out; have := hz1.out; have := hz2.out; have := hB2.size; omega)).mono ?_
 rintro e w3 ⟨P1, q1, rfl, hv1, hb3⟩
 try dsimp only
 have hB3 := below_then hB2 hB2.size hb3
 have hz3 := hb3.size
 have z5 := (hb3.block _ (Array.getElem?_eq_some_iff.1 z5).1).trans z5
 have z6 := (hb3.block _ (Array.getElem?_eq_some_iff.1 z6).1).trans z6
 refine hK.out _ _ ⟨(hb3.block _ (Array.getElem?_eq_some_iff.1 hHeld.1).1).trans hHeld.1, (hb3.block _ (Array.getElem?_eq_some_iff.1 hHeld.2).1).trans hHeld.2⟩ (fun hHeld => ?_)
 clear hK K
 try dsimp only [Act.put]
 try simp only [Act.put, sI, s0, sS]
 refine wpAnyH_ready (rs := [3]) (by kernel_rfl) (by simp) ?_
 refine (AllReadyH.cons (o := _) rfl (fun K hK => ?_) AllReadyH.nil)
 · as_aux_lemma => (
 go_simp
 refine (C10b.out w3 hB3 [w1.heap.size, Wd.heap.size] (by simp only [List.mem_cons, List.not_mem_nil, or_false]; have := HSD.out; have := hz1.out; have := hz2.out; have := hB3.size; omega)).mono ?_
 rintro e w4 ⟨P2, q2, rfl, hv2, hb4⟩
 try dsimp only
 have hB4 := below_then hB3 hB3.size hb4
 have hz4 := hb4.size
 have z5 := (hb4.block _ (Array.getElem?_eq_some_iff.1 z5).1).trans z5
 have z6 := (hb4.block _ (Array.getElem?_eq_some_iff.1 z6).1).trans z6
 have hv1 := hv1.below hb4
 refine hK.out _ _ ⟨(hb4.block _ (Array.getElem?_eq_some_iff.1 hHeld.1).1).trans hHeld.1, (hb4.block _ (Array.getElem?_eq_some_iff.1 hHeld.2).1).trans hHeld.2⟩ (fun hHeld => ?_)
 clear hK K
 try dsimp only [Act.put]
 try simp only [Act.put, sI, s0, sS]
 have hne : w1.heap.size ≠ Wd.heap.size := by have := HSD.out; have := hz1.out; have := hz2.out; omega
 have hlow : Wd.heap.size ≤ w1.heap.size ∧ Wd.heap.size ≤ Wd.heap.size := by have := HSD.out; have := hz1.out; have := hz2.out; have := hB4.size; omega
 refine wpAnyH_ready (rs := [6]) (by kernel_rfl) (by simp) ?_
 refine ar1 rfl (fun K hK => ?_)
 refine store_whole 30 (.tmp 5) (.tmp 37) rfl rfl 5 rfl rfl z5 ⟨rfl, rfl⟩ info30' rfl _ (by kernel_rfl) (fun u1 h31 h32 h33 h34 => ?_)
 have z6 := (h32 _ hne.symm).trans z6
 have hv1 := hv1.store (x := w1.heap.size) (by simp) h32 h34
 have hv2 := hv2.store (x := w1.heap.size) (by simp) h32 h34
 refine hK.out _ _ ⟨(h32 _ (by have := HSD.out; have := hz1.out; have := hz2.out; have := (Array.getElem?_eq_some_iff.1 HL.out.1).1; have := (Array.getElem?_eq_some_iff.1 HL.out.2).1; omega)).trans hHeld.1, (h32 _ (by have := HSD.out; have := hz1.out; have := hz2.out; have := (Array.getElem?_eq_some_iff.1 HL.out.1).1; have := (Array.getElem?_eq_some_iff.1 HL.out.2).1; omega)).trans hHeld.2⟩ (fun hHeld => ?_)
 clear hK K
 try dsimp only [Act.put]
 try simp only [Act.put, sI, s0, sS]
 refine wpAnyH_ready (rs := [7]) (by kernel_rfl) (by simp) ?_
 refine ar1 rfl (fun K hK => ?_)
 refine store_whole 30 (.tmp 6) (.tmp 39) rfl rfl 5 rfl rfl z6 ⟨rfl, rfl⟩ info30' rfl _ (by kernel_rfl) (fun u2 h41 h42 h43 h44 => ?_)
 have z5 := (h42 _ hne).trans h31
 have hv1 := hv1.store (x := Wd.heap.size) (by simp) h42 h44
 have hv2 := hv2.store (x := Wd.heap.size) (by simp) h42 h44
 refine hK.out _ _ ⟨(h42 _ (by have := HSD.out; have := hz1.out; have := hz2.out; have := (Array.getElem?_eq_some_iff.1 HL.out.1).1; have := (Array.getElem?_eq_some_iff.1 HL.out.2).1; omega)).trans hHeld.1, (h42 _ (by have := HSD.out; have := hz1.out; have := hz2.out; have := (Array.getElem?_eq_some_iff.1 HL.out.1).1; have := (Array.getElem?_eq_some_iff.1 HL.out.2).1; omega)).trans hHeld.2⟩ (fun hHeld => ?_)
 clear hK K
 refine wpAnyH_done (by kernel_rfl) ?_ _
 go_wp2_with fail
 go_meet
 exact ⟨_, _, P1, n1, q1, P2, n2, q2, rfl, rfl, z5, h41, hv1.conv, hv2.conv, below_then hWbd hWbd.size (h43 _ _ hlow.2 (h33 _ _ hlow.1 hB4))⟩))))))
 case rest => (
 obtain ⟨x5, x6, P1, m1, q1, P2, m2, q2, rfl, rfl, z5, z6, v1, v2, hbr⟩ := hcut
 obtain ⟨Wr, rfl⟩ : ∃ W : World, W = wc := ⟨_, rfl⟩
 have HBR := Lib.hid (below_then HBB.out HBB.out.size hbr)
 have Z5 := Lib.hid z5
 have Z6 := Lib.hid z6
 have V1 := Lib.hid v1
 have V2 := Lib.hid v2
 clear z5 z6 v1 v2 hbr zA zB hWd hWbd hWd0 C10a C10b HSD
 as_aux_lemma => (
 go_upto_region 7 with fail
 obtain ⟨Ws, hWs⟩ : ∃ Ws, Ws = Wr.alloc (.cells #[.bool false, .bool true] 4) := ⟨_, rfl⟩
 have hbs : Below Wr.heap.size Wr Ws := bq hWs
 rw [← hWs]
 have kb : ∀ k : Nat, k < 2 → ∃ t : Bool, Ws.cell? ⟨Wr.heap.size, k, none⟩ = some (.bool t) := fun k hk => by
  have hz : Ws.heap[Wr.heap.size]? = some (.cells #[.bool false, .bool true] 4 (0, 0)) := by rw [hWs]; exact heap_alloc_new Wr _
  match k, hk with
  | 0, _ => exact ⟨false, blk_cell hz 0 _ rfl⟩
  | 1, _ => exact ⟨true, blk_cell hz 1 _ rfl⟩
 have KB := Lib.hid kb
 have HBS := Lib.hid (below_then HBR.out HBR.out.size hbs)
 have HSB := Lib.hid hbs
 clear hWs hbs kb
 as_aux_lemma => (
 go_loopw [8, 10, 11, 42] (fun _ _ _ i wr => ∃ k : Nat, k ≤ 2 ∧ i = .int .i64 k ∧ Below Ws.heap.size Ws wr) (fun _ _ _ i _ => 2 - (intOf i).toNat)
 case atStart => exact ⟨0, Nat.zero_le _, rfl, Below.refl _ _⟩
 case round => (
 obtain ⟨k, hk, rfl, hbk⟩ := hrel
 obtain ⟨wo, rfl⟩ : ∃ wo : World, wo = wr := ⟨_, rfl⟩
 by_cases hlt : k < 2
 · (
 obtain ⟨t, ct⟩ := KB.out k hlt
 have ct := cellk ct hbk
 have HBK := Lib.hid hbk
 have i0 : (0 : Int) ≤ (k : Int) := by omega
 have i1 : (k : Int) < 2 := by omega
 clear hbk
 as_aux_lemma => (
 go_upto_region 10 with fail
 obtain ⟨Wu, hWu⟩ : ∃ Wu, Wu = wo.alloc (.cells #[.bool false, .bool true] 4) := ⟨_, rfl⟩
 have hbu : Below wo.heap.size wo Wu := bq hWu
 rw [← hWu]
 have kb2 : ∀ k : Nat, k < 2 → ∃ v : Bool, Wu.cell? ⟨wo.heap.size, k, none⟩ = some (.bool v) := fun k hk => by
  have hz : Wu.heap[wo.heap.size]? = some (.cells #[.bool false, .bool true] 4 (0, 0)) := by rw [hWu]; exact heap_alloc_new wo _
  match k, hk with
  | 0, _ => exact ⟨false, blk_cell hz 0 _ rfl⟩
  | 1, _ => exact ⟨true, blk_cell hz 1 _ rfl⟩
 have KB2 := Lib.hid kb2
 have HBU := Lib.hid (below_then HBK.out HBK.out.size hbu)
 clear hWu hbu kb2 ct
 as_aux_lemma => (
 go_loopw [10, 11, 48] (fun _ _ j wr => ∃ m : Nat, m ≤ 2 ∧ j = .int .i64 m ∧ Below Wu.heap.size Wu wr) (fun _ _ j _ => 2 - (intOf j).toNat)
 case atStart => exact ⟨0, Nat.zero_le _, rfl, Below.refl _ _⟩
 case round => (
 obtain ⟨m, hm, rfl, hbm⟩ := hrel
 obtain ⟨wp, rfl⟩ : ∃ wp : World, wp = wr := ⟨_, rfl⟩
 by_cases hlm : m < 2
 · (
 obtain ⟨v, cv⟩ := KB2.out m hlm
 have cv := cellk cv hbm
 have HBX := Lib.hid (below_then HSB.out HSB.out.size (below_then HBU.out HBU.out.size hbm))
 have HBP := Lib.hid (below_then HBR.out HBR.out.size HBX.out)
 have HBM := Lib.hid hbm
 have e0 : wp.cell? ⟨x5, 0, none⟩ = some (.int .u8 a.kind) := cellk (blk_cell Z5.out 0 _ rfl) HBX.out
 have e1 : wp.cell? ⟨x5, 1, none⟩ = some (.bool a.float) := cellk (blk_cell Z5.out 1 _ rfl) HBX.out
 have e2 : wp.cell? ⟨x5, 2, none⟩ = some (.bool a.delta) := cellk (blk_cell Z5.out 2 _ rfl) HBX.out
 have e3 : wp.cell? ⟨x5, 3, none⟩ = some (.bool a.mono) := cellk (blk_cell Z5.out 3 _ rfl) HBX.out
 have e4 : wp.cell? ⟨x5, 4, none⟩ = some (.slice P1 m1 q1) := cellk (blk_cell Z5.out 4 _ rfl) HBX.out
 have g0 : wp.cell? ⟨x6, 0, none⟩ = some (.int .u8 b.kind) := cellk (blk_cell Z6.out 0 _ rfl) HBX.out
 have g1 : wp.cell? ⟨x6, 1, none⟩ = some (.bool b.float) := cellk (blk_cell Z6.out 1 _ rfl) HBX.out
 have g2 : wp.cell? ⟨x6, 2, none⟩ = some (.bool b.delta) := cellk (blk_cell Z6.out 2 _ rfl) HBX.out
 have g3 : wp.cell? ⟨x6, 3, none⟩ = some (.bool b.mono) := cellk (blk_cell Z6.out 3 _ rfl) HBX.out
 have g4 : wp.cell? ⟨x6, 4, none⟩ = some (.slice P2 m2 q2) := cellk (blk_cell Z6.out 4 _ rfl) HBX.out
 have j0 : (0 : Int) ≤ (m : Int) := by omega
 have j1 : (m : Int) < 2 := by omega
 clear hbm
 as_aux_lemma => (
 go_upto_region 12 with fail
 have C11a := Lib.hid (C11.out t v wp HBP.out ra rb _ _ _ _ _ _ (V1.out.below HBX.out) (V2.out.below HBX.out))
 have C11b := Lib.hid fun (W : World) (hW : Below wp.heap.size wp W) => C11r.out t v W (below_then HBP.out HBP.out.size hW) ra rb _ _ _ _ _ _ ((V1.out.below HBX.out).below hW) ((V2.out.below HBX.out).below hW)
 have C11t := Lib.hid fun (W : World) (hW : Below wp.heap.size wp W) => C11.out true true W (below_then HBP.out HBP.out.size hW) ra rb _ _ _ _ _ _ ((V1.out.below HBX.out).below hW) ((V2.out.below HBX.out).below hW)
 have hmono := Lib.hid (fun h => sameData_mono t v (a := a) (b := b) h)
 rw [sameData_symm t v b a] at C11b
 generalize sameData t v a b = R at C11a C11b hmono
 cases R
 all_goals
  first
   | rw [hmono.out rfl] at C11t
   | skip
 all_goals as_aux_lemma => (
 go_wp2_with (first
  | (go_at_call 11; (with_reducible refine C11a.out.mono ?_); rintro e w1 ⟨rfl, hb1⟩; have e0 := cellk e0 hb1; have e1 := cellk e1 hb1; have e2 := cellk e2 hb1; have e3 := cellk e3 hb1; have e4 := cellk e4 hb1; have g0 := cellk g0 hb1; have g1 := cellk g1 hb1; have g2 := cellk g2 hb1; have g3 := cellk g3 hb1; have g4 := cellk g4 hb1)
  | (go_at_call 11; (with_reducible refine (C11b.out _ hb1).mono ?_); rintro e w2 ⟨rfl, hb2⟩; have hq2 := below_then hb1 hb1.size hb2; have e0 := cellk e0 hb2; have e1 := cellk e1 hb2; have e2 := cellk e2 hb2; have e3 := cellk e3 hb2; have e4 := cellk e4 hb2; have g0 := cellk g0 hb2; have g1 := cellk g1 hb2; have g2 := cellk g2 hb2; have g3 := cellk g3 hb2; have g4 := cellk g4 hb2)
  | (go_at_call 11; (with_reducible refine (C11t.out _ hq2).mono ?_); rintro e w3 ⟨rfl, hb3⟩; have hq3 := below_then hq2 hq2.size hb3))
 go_roundw
 case rel => exact ⟨m + 1, by omega, by go_num, below_then HBM.out HBM.out.size (by first | exact hq3 | exact hq2)⟩
 case measure => simp [intOf]; omega)))
 · (
 have f9 : ¬ (m : Int) < 2 := by omega
 as_aux_lemma => (
 go_wp2_with fail
 go_roundw
 case rel => exact ⟨k + 1, by omega, by go_num, below_then HBU.out HBU.out.size hbm⟩
 case measure => simp [intOf]; omega))))))
 · (
 have f9 : ¬ (k : Int) < 2 := by omega
 as_aux_lemma => (
 go_wp2_with (go_at_call 9; (with_reducible refine (C9.out _ (below_then HBS.out HBS.out.size hbk)).mono ?_); rintro e w6 ⟨rfl, hb6⟩)
 go_ret
 exact ⟨rfl, HUP.out _ (below_then (below_then HBS.out HBS.out.size hbk) (below_then HBS.out HBS.out.size hbk).size hb6)⟩))))))))))))
end Go.Proofs.YtlpddogcnpokfaaGreatDoor
