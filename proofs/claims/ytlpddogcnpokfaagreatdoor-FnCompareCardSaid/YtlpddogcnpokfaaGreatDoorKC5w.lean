/- Contracts of functions of the program, for the comparison of aggregations (part KC5w). -/
import Derived.Test.YtlpddogcnpokfaaGreatDoorKB2
set_option linter.all false
namespace Go.Proofs.YtlpddogcnpokfaaGreatDoor
open Go.RowKit
set_option maxRecDepth 100000 in
set_option maxHeartbeats 4000000 in
theorem c5 (it iv : Bool) (a b : Data) (A1 A2 : Option Addr) (n1 k1 n2 k2 : Nat) (w : World) (ha : DotsR w w.heap.size A1 n1 k1 a.dots) (hb : DotsR w w.heap.size A2 n2 k2 b.dots) (hT : Lib.Utf8Tabs 3 4 w) (hT4 : 4 < w.heap.size) :
 Calls Tryz.prog 5 #[.agg #[.int .u8 a.kind, .bool a.float, .bool a.delta, .bool a.mono, .slice A1 n1 k1], .agg #[.int .u8 b.kind, .bool b.float, .bool b.delta, .bool b.mono, .slice A2 n2 k2], .bool it, .bool iv] w fun e w' => e = .returned (.bool true) ∧ Below w.heap.size w w' := by
 have oa : ∀ x ∈ a.dots, x.1.Ok := fun x hx => (ha.all x hx).ok
 have ob : ∀ x ∈ b.dots, x.1.Ok := fun x hx => (hb.all x hx).ok
 obtain ⟨W0, hW0⟩ : ∃ W0, W0 = (w.alloc (.cells #[.int .u8 a.kind, .bool a.float, .bool a.delta, .bool a.mono, .slice A1 n1 k1] 24)).alloc (.cells #[.int .u8 b.kind, .bool b.float, .bool b.delta, .bool b.mono, .slice A2 n2 k2] 24) := ⟨_, rfl⟩
 have hb0 : Below w.heap.size w W0 := by rw [hW0]; exact ((Below.refl _ _).alloc (Nat.le_refl _) _).alloc (by simp) _
 have x0 : W0.cell? ⟨w.heap.size, 0, none⟩ = some (.int .u8 a.kind) := by rw [hW0]; simp [go_sem]
 have x1 : W0.cell? ⟨w.heap.size, 1, none⟩ = some (.bool a.float) := by rw [hW0]; simp [go_sem]
 have x2 : W0.cell? ⟨w.heap.size, 2, none⟩ = some (.bool a.delta) := by rw [hW0]; simp [go_sem]
 have x3 : W0.cell? ⟨w.heap.size, 3, none⟩ = some (.bool a.mono) := by rw [hW0]; simp [go_sem]
 have x4 : W0.cell? ⟨w.heap.size, 4, none⟩ = some (.slice A1 n1 k1) := by rw [hW0]; simp [go_sem]
 have y0 : W0.cell? ⟨w.heap.size + 1, 0, none⟩ = some (.int .u8 b.kind) := by rw [hW0]; simp [go_sem]
 have y1 : W0.cell? ⟨w.heap.size + 1, 1, none⟩ = some (.bool b.float) := by rw [hW0]; simp [go_sem]
 have y2 : W0.cell? ⟨w.heap.size + 1, 2, none⟩ = some (.bool b.delta) := by rw [hW0]; simp [go_sem]
 have y3 : W0.cell? ⟨w.heap.size + 1, 3, none⟩ = some (.bool b.mono) := by rw [hW0]; simp [go_sem]
 have y4 : W0.cell? ⟨w.heap.size + 1, 4, none⟩ = some (.slice A2 n2 k2) := by rw [hW0]; simp [go_sem]
 have hs0 : W0.heap.size = w.heap.size + 2 := by rw [hW0]; simp
 have up : ∀ W, Below W0.heap.size W0 W → Below w.heap.size w W := fun W hW => below_then hb0 hb0.size hW
 have CA6 := Lib.hid fun (W : World) (hW : Below W0.heap.size W0 W) => c6 a.kind a.float a.delta a.mono A1 n1 k1 a.dots W ((ha.below (up W hW)).more (up W hW).size)
 have CB6 := Lib.hid fun (W : World) (hW : Below W0.heap.size W0 W) => c6 b.kind b.float b.delta b.mono A2 n2 k2 b.dots W ((hb.below (up W hW)).more (up W hW).size)
 have CA7 := Lib.hid fun (W : World) (hW : Below W0.heap.size W0 W) => c7 a.kind a.float a.delta a.mono A1 n1 k1 a.dots W ((ha.below (up W hW)).more (up W hW).size)
 have CB7 := Lib.hid fun (W : World) (hW : Below W0.heap.size W0 W) => c7 b.kind b.float b.delta b.mono A2 n2 k2 b.dots W ((hb.below (up W hW)).more (up W hW).size)
 have C8 := Lib.hid fun (W : World) (hW : Below W0.heap.size W0 W) (ra : Right a.kind a.float a.dots) (rb : Right b.kind b.float b.dots) => c8two a b A1 A2 n1 k1 n2 k2 W ((ha.below (up W hW)).more (up W hW).size) ((hb.below (up W hW)).more (up W hW).size) ra rb
 have C9 := Lib.hid fun (W : World) (hW : Below W0.heap.size W0 W) => c9 W (utf8_below hT hT4 (up W hW)) (Nat.lt_of_lt_of_le hT4 (up W hW).size)
 have C10a := Lib.hid fun (W : World) (hW : Below W0.heap.size W0 W) (ra : Right a.kind a.float a.dots) => c10c a ((ha.below (up W hW)).more (up W hW).size) ra
 have C10b := Lib.hid fun (W : World) (hW : Below W0.heap.size W0 W) (rb : Right b.kind b.float b.dots) => c10c b ((hb.below (up W hW)).more (up W hW).size) rb
 have C11 := Lib.hid fun (W : World) (hW : Below W0.heap.size W0 W) (ra : Right a.kind a.float a.dots) (rb : Right b.kind b.float b.dots) (P1 P2 : Option Addr) (m1 q1 m2 q2 : Nat) (h1 : Conv W a.dots P1 m1 q1) (h2 : Conv W b.dots P2 m2 q2) => c11c it iv a b h1 h2 ra rb oa ob (utf8_below hT hT4 (up W hW)) (Nat.lt_of_lt_of_le hT4 (up W hW).size)
 have C16 := Lib.hid fun (W : World) (hW : Below W0.heap.size W0 W) (ra : Right a.kind a.float a.dots) (rb : Right b.kind b.float b.dots) => c16 it iv a b A1 A2 n1 k1 n2 k2 W ((ha.below (up W hW)).more (up W hW).size) ((hb.below (up W hW)).more (up W hW).size) (fun x hx => (ra.2.2 x hx).nattr) (fun x hx => (rb.2.2 x hx).nattr) (by have := hb.rd.numlen; have := rb.2.1; omega)
 generalize sameData it iv a b = R at C11 C16
 have HB := Lib.hid hb0
 have HW := Lib.hid hW0
 have HS0 := Lib.hid hs0
 have HUP := Lib.hid up
 have X0 := Lib.hid x0
 have X1 := Lib.hid x1
 have X2 := Lib.hid x2
 have X3 := Lib.hid x3
 have X4 := Lib.hid x4
 have Y0 := Lib.hid y0
 have Y1 := Lib.hid y1
 have Y2 := Lib.hid y2
 have Y3 := Lib.hid y3
 have Y4 := Lib.hid y4
 clear hW0 hb0 hs0 up ha hb hT
 go_enter Tryz.func5, Tryz.ntmps5
 go_upto_region 1 with fail
 rw [← HW.out]
 try simp only [Act.put]
 go_cut [16] from 9 (fun s wx => (∃ r, s = .bool r) ∧ Below W0.heap.size W0 wx)
 case first => (
 as_aux_lemma => (
 go_wp2_with (first
  | (go_at_call 6; (with_reducible refine (CA6.out _ (Below.refl _ _)).mono ?_); rintro e w1 ⟨⟨r, rfl⟩, hb1⟩; have x0 := cellk X0.out hb1; have x1 := cellk X1.out hb1; have x2 := cellk X2.out hb1; have x3 := cellk X3.out hb1; have x4 := cellk X4.out hb1; have y0 := cellk Y0.out hb1; have y1 := cellk Y1.out hb1; have y2 := cellk Y2.out hb1; have y3 := cellk Y3.out hb1; have y4 := cellk Y4.out hb1; cases r)
  | (go_at_call 6; (with_reducible refine (CB6.out _ hb1).mono ?_); rintro e w2 ⟨⟨r, rfl⟩, hb2⟩; have hb12 := below_then hb1 hb1.size hb2; cases r))
 all_goals go_meet
 all_goals first | exact ⟨⟨_, rfl⟩, hb12⟩ | exact ⟨⟨_, rfl⟩, hb1⟩))
 case rest => (
 obtain ⟨⟨r, rfl⟩, hbc⟩ := hcut
 obtain ⟨Wa, rfl⟩ : ∃ W : World, W = wc := ⟨_, rfl⟩
 have HBA := Lib.hid hbc
 clear hbc
 replace x0 := cellk X0.out HBA.out
 replace x1 := cellk X1.out HBA.out
 replace x2 := cellk X2.out HBA.out
 replace x3 := cellk X3.out HBA.out
 replace x4 := cellk X4.out HBA.out
 replace y0 := cellk Y0.out HBA.out
 replace y1 := cellk Y1.out HBA.out
 replace y2 := cellk Y2.out HBA.out
 replace y3 := cellk Y3.out HBA.out
 replace y4 := cellk Y4.out HBA.out
 cases r
 case true => (
 as_aux_lemma => (
 go_wp2_with fail
 go_ret
 exact ⟨rfl, HUP.out _ HBA.out⟩))
 case false => (
 as_aux_lemma => (
 go_upto_region 3 with fail
 go_cut [31] from 17 (fun s wx => (∃ r, s = .bool r ∧ (r = false → Right a.kind a.float a.dots ∧ Right b.kind b.float b.dots)) ∧ Below W0.heap.size W0 wx)
 case first => (
 as_aux_lemma => (
 go_wp2_with (first
  | (go_at_call 7; (with_reducible refine (CA7.out _ HBA.out).mono ?_); rintro e w3 ⟨⟨r, rfl, hra⟩, hb3⟩; have hq3 := below_then HBA.out HBA.out.size hb3; have x0 := cellk X0.out hq3; have x1 := cellk X1.out hq3; have x2 := cellk X2.out hq3; have x3 := cellk X3.out hq3; have x4 := cellk X4.out hq3; have y0 := cellk Y0.out hq3; have y1 := cellk Y1.out hq3; have y2 := cellk Y2.out hq3; have y3 := cellk Y3.out hq3; have y4 := cellk Y4.out hq3; cases r)
  | (go_at_call 7; (with_reducible refine (CB7.out _ hq3).mono ?_); rintro e w4 ⟨⟨r, rfl, hrb⟩, hb4⟩; have hq4 := below_then hq3 hq3.size hb4; have x0 := cellk X0.out hq4; have x1 := cellk X1.out hq4; have x2 := cellk X2.out hq4; have x3 := cellk X3.out hq4; have x4 := cellk X4.out hq4; have y0 := cellk Y0.out hq4; have y1 := cellk Y1.out hq4; have y2 := cellk Y2.out hq4; have y3 := cellk Y3.out hq4; have y4 := cellk Y4.out hq4; cases r)
  | ((with_reducible refine arm_bs2 24 52 (.tmp 26) (.tmp 27) 5 (infoD_four infoD24) Tryz.underlying52 (by decide) (c1 := #[.int .u8 a.kind, .bool a.float, .bool a.delta, .bool a.mono, .slice A1 n1 k1]) (c2 := #[.int .u8 b.kind, .bool b.float, .bool b.delta, .bool b.mono, .slice A2 n2 k2]) (cs := #[.int .u8 a.kind, .bool a.float, .bool a.delta, .bool a.mono, .slice A1 n1 k1, .int .u8 b.kind, .bool b.float, .bool b.delta, .bool b.mono, .slice A2 n2 k2]) rfl rfl rfl ?_ ?_ ?_ ?_); kernel_rfl; rfl; rfl)
  | (go_at_call 8; have hra2 := hra (by trivial); have hrb2 := hrb (by trivial); (with_reducible refine (C8.out _ hq4 hra2 hrb2).mono ?_); rintro e w5 ⟨⟨r, rfl⟩, hb5⟩; have hq5 := below_then hq4 hq4.size hb5; cases r))
 all_goals go_meet
 all_goals first
  | exact ⟨⟨_, rfl, fun h => Bool.noConfusion h⟩, hq5⟩
  | exact ⟨⟨_, rfl, fun h => Bool.noConfusion h⟩, hq4⟩
  | exact ⟨⟨_, rfl, fun h => Bool.noConfusion h⟩, hq3⟩
  | exact ⟨⟨_, rfl, fun _ => ⟨hra2, hrb2⟩⟩, hq5⟩))
 case rest => (
 obtain ⟨⟨r, rfl, hrr⟩, hbc⟩ := hcut
 obtain ⟨Wb, rfl⟩ : ∃ W : World, W = wc := ⟨_, rfl⟩
 have HBB := Lib.hid hbc
 clear hbc HBA
 replace x0 := cellk X0.out HBB.out
 replace x1 := cellk X1.out HBB.out
 replace x2 := cellk X2.out HBB.out
 replace x3 := cellk X3.out HBB.out
 replace x4 := cellk X4.out HBB.out
 replace y0 := cellk Y0.out HBB.out
 replace y1 := cellk Y1.out HBB.out
 replace y2 := cellk Y2.out HBB.out
 replace y3 := cellk Y3.out HBB.out
 replace y4 := cellk Y4.out HBB.out
 cases r
 case true => (
 as_aux_lemma => (
 go_wp2_with (go_at_call 9; (with_reducible refine (C9.out _ HBB.out).mono ?_); rintro e w6 ⟨rfl, hb6⟩)
 go_ret
 exact ⟨rfl, HUP.out _ (below_then HBB.out HBB.out.size hb6)⟩))
 case false => (
 obtain ⟨ra, rb⟩ := hrr rfl
 clear hrr
 as_aux_lemma => (
 go_upto_region 5 with fail
 cases R
 all_goals
  first
   | (go_region_held3 (fun w' => w'.cell? ⟨w.heap.size, 0, none⟩ = some (.int .u8 a.kind) ∧ w'.cell? ⟨w.heap.size, 1, none⟩ = some (.bool a.float) ∧ w'.cell? ⟨w.heap.size, 2, none⟩ = some (.bool a.delta) ∧ w'.cell? ⟨w.heap.size, 3, none⟩ = some (.bool a.mono) ∧ w'.cell? ⟨w.heap.size, 4, none⟩ = some (.slice A1 n1 k1) ∧ w'.cell? ⟨w.heap.size + 1, 0, none⟩ = some (.int .u8 b.kind) ∧ w'.cell? ⟨w.heap.size + 1, 1, none⟩ = some (.bool b.float) ∧ w'.cell? ⟨w.heap.size + 1, 2, none⟩ = some (.bool b.delta) ∧ w'.cell? ⟨w.heap.size + 1, 3, none⟩ = some (.bool b.mono) ∧ w'.cell? ⟨w.heap.size + 1, 4, none⟩ = some (.slice A2 n2 k2)) (first | exact ⟨x0, x1, x2, x3, x4, y0, y1, y2, y3, y4⟩ | exact ⟨cellk (w := Wb.drew) x0 hb1, cellk (w := Wb.drew) x1 hb1, cellk (w := Wb.drew) x2 hb1, cellk (w := Wb.drew) x3 hb1, cellk (w := Wb.drew) x4 hb1, cellk (w := Wb.drew) y0 hb1, cellk (w := Wb.drew) y1 hb1, cellk (w := Wb.drew) y2 hb1, cellk (w := Wb.drew) y3 hb1, cellk (w := Wb.drew) y4 hb1⟩ | exact ⟨cellk (w := Wb.drew) x0 hq2, cellk (w := Wb.drew) x1 hq2, cellk (w := Wb.drew) x2 hq2, cellk (w := Wb.drew) x3 hq2, cellk (w := Wb.drew) x4 hq2, cellk (w := Wb.drew) y0 hq2, cellk (w := Wb.drew) y1 hq2, cellk (w := Wb.drew) y2 hq2, cellk (w := Wb.drew) y3 hq2, cellk (w := Wb.drew) y4 hq2⟩ | exact ⟨cellk (w := Wb.drew) x0 hq3, cellk (w := Wb.drew) x1 hq3, cellk (w := Wb.drew) x2 hq3, cellk (w := Wb.drew) x3 hq3, cellk (w := Wb.drew) x4 hq3, cellk (w := Wb.drew) y0 hq3, cellk (w := Wb.drew) y1 hq3, cellk (w := Wb.drew) y2 hq3, cellk (w := Wb.drew) y3 hq3, cellk (w := Wb.drew) y4 hq3⟩ | exact ⟨cellk (w := Wb.drew) x0 hq4, cellk (w := Wb.drew) x1 hq4, cellk (w := Wb.drew) x2 hq4, cellk (w := Wb.drew) x3 hq4, cellk (w := Wb.drew) x4 hq4, cellk (w := Wb.drew) y0 hq4, cellk (w := Wb.drew) y1 hq4, cellk (w := Wb.drew) y2 hq4, cellk (w := Wb.drew) y3 hq4, cellk (w := Wb.drew) y4 hq4⟩ | exact ⟨cellk (w := Wb.drew) x0 hq5, cellk (w := Wb.drew) x1 hq5, cellk (w := Wb.drew) x2 hq5, cellk (w := Wb.drew) x3 hq5, cellk (w := Wb.drew) x4 hq5, cellk (w := Wb.drew) y0 hq5, cellk (w := Wb.drew) y1 hq5, cellk (w := Wb.drew) y2 hq5, cellk (w := Wb.drew) y3 hq5, cellk (w := Wb.drew) y4 hq5⟩)
    (first
     | (go_at_call 10; (with_reducible refine (C10a.out _ (below_drew HBB.out) ra).mono ?_); rintro e w1 ⟨P1, q1, rfl, hv1, hb1⟩; have hbA := below_then (below_drew HBB.out) (below_drew HBB.out).size hb1)
     | (go_at_call 10; (with_reducible refine (C10b.out _ hbA rb).mono ?_); rintro e w2 ⟨P2, q2, rfl, hv2, hb2⟩; have hbB := below_then hbA hbA.size hb2; have hq2 := below_then hb1 hb1.size hb2)
     | (go_at_call 11; (with_reducible refine (C11.out _ hbB ra rb _ _ _ _ _ _ (hv1.below hb2) hv2).mono ?_); rintro e w3 ⟨rfl, hb3⟩; have hbC := below_then hbB hbB.size hb3; have hq3 := below_then hq2 hq2.size hb3)
     | (go_at_call 16; (with_reducible refine (C16.out _ hbC ra rb).mono ?_); rintro e w4 ⟨rfl, hb4⟩; have hbD := below_then hbC hbC.size hb4; have hq4 := below_then hq3 hq3.size hb4)
     | (go_at_call 9; (with_reducible refine (C9.out _ hbD).mono ?_); rintro e w5 ⟨rfl, hb5⟩; have hbE := below_then hbD hbD.size hb5; have hq5 := below_then hq4 hq4.size hb5)))
   | fail
  all_goals go_wp2_with fail
  all_goals go_ret
  all_goals exact ⟨rfl, HUP.out _ hbE⟩))))))
end Go.Proofs.YtlpddogcnpokfaaGreatDoor
