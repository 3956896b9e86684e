/- Contracts of functions of the program, for the comparison of aggregations (part KC4). -/
import Derived.Test.YtlpddogcnpokfaaGreatDoorKR5
import Derived.Test.YtlpddogcnpokfaaGreatDoorKTrn
import Derived.Deep.RegionHeld3
set_option linter.all false
namespace Go.Proofs.YtlpddogcnpokfaaGreatDoor
open Go.RowKit
theorem c8one (a : Data) (A1 : Option Addr) (n1 k1 : Nat) (W : World) (ha : DotsR W W.heap.size A1 n1 k1 a.dots) (ra : Right a.kind a.float a.dots) :
 Calls Tryz.prog 8 #[.slice (some ⟨W.heap.size, 0, none⟩) 1 1] (W.alloc (.cells #[.int .u8 a.kind, .bool a.float, .bool a.delta, .bool a.mono, .slice A1 n1 k1] 24)) fun e w' => (∃ r, e = .returned (.bool r)) ∧ Below W.heap.size W w' := by
 have hbn : Below W.heap.size W (W.alloc (.cells #[.int .u8 a.kind, .bool a.float, .bool a.delta, .bool a.mono, .slice A1 n1 k1] 24)) := (Below.refl _ _).alloc (Nat.le_refl _) _
 refine (c8c [(a, ⟨A1, n1, k1⟩)] (heap_alloc_new W _) rfl (by simp) (fun x hx => ?_) (fun x hx => ?_)).mono ?_
 · (
 simp only [List.mem_cons, List.not_mem_nil, or_false] at hx
 subst hx
 exact (ha.below hbn).more hbn.size)
 · (
 simp only [List.mem_cons, List.not_mem_nil, or_false] at hx
 subst hx
 exact ra)
 · rintro e w' ⟨h1, h2⟩
   exact ⟨h1, below_then hbn hbn.size h2⟩
theorem kp {w w' : World} {b : Nat} {o : Obj} (h : Below w.heap.size w w') (k : w.heap[b]? = some o) : w'.heap[b]? = some o := (h.block _ (Array.getElem?_eq_some_iff.1 k).1).trans k
abbrev zb30 : Obj := .cells #[.int .u8 0, .bool false, .bool false, .bool false, .slice none 0 0] 30
theorem ab (W : World) (o : Obj) : Below W.heap.size W (W.alloc o) := (Below.refl _ _).alloc (Nat.le_refl _) _
theorem az (W : World) (o : Obj) : Hid ((W.alloc o).heap.size = W.heap.size + 1) := Lib.hid (by simp)
theorem infoD42 : ∃ i z, Tryz.prog.info? 42 = some i ∧ i.zero = some z ∧ i.size = 18 ∧ i.bytes = 216 ∧ z.cells.size = 18 := infoD_of (by kernel_rfl)
set_option maxRecDepth 100000 in
set_option maxHeartbeats 4000000 in
theorem c4 (a : Data) (t : Int) (A1 : Option Addr) (n1 k1 : Nat) (w : World) (ha : DotsR w w.heap.size A1 n1 k1 a.dots) (ht0 : 0 ≤ t) (ht1 : t ≤ 255) (hT : Lib.Utf8Tabs 3 4 w) (hT4 : 4 < w.heap.size) :
 Calls Tryz.prog 4 #[.agg #[.int .u8 a.kind, .bool a.float, .bool a.delta, .bool a.mono, .slice A1 n1 k1], .int .u8 t] w fun e w' => e = .returned (.bool true) ∧ Below w.heap.size w w' := by
 have oa : ∀ x ∈ a.dots, x.1.Ok := fun x hx => (ha.all x hx).ok
 have hln := ha.rd.numlen
 have hcap := ha.rd.cap
 have hctop := ha.rd.ctop
 obtain ⟨W0, hW0⟩ : ∃ W0, W0 = w.alloc (.cells #[.int .u8 a.kind, .bool a.float, .bool a.delta, .bool a.mono, .slice A1 n1 k1] 24) := ⟨_, rfl⟩
 have hb0 : Below w.heap.size w W0 := bq hW0
 have x0 : W0.cell? ⟨w.heap.size, 0, none⟩ = some (.int .u8 a.kind) := by rw [hW0]; simp [go_sem]
 have x1 : W0.cell? ⟨w.heap.size, 1, none⟩ = some (.bool a.float) := by rw [hW0]; simp [go_sem]
 have x2 : W0.cell? ⟨w.heap.size, 2, none⟩ = some (.bool a.delta) := by rw [hW0]; simp [go_sem]
 have x3 : W0.cell? ⟨w.heap.size, 3, none⟩ = some (.bool a.mono) := by rw [hW0]; simp [go_sem]
 have x4 : W0.cell? ⟨w.heap.size, 4, none⟩ = some (.slice A1 n1 k1) := by rw [hW0]; simp [go_sem]
 have hs0 : W0.heap.size = w.heap.size + 1 := by rw [hW0]; simp
 have hzA : W0.heap[w.heap.size]? = some (.cells #[.int .u8 a.kind, .bool a.float, .bool a.delta, .bool a.mono, .slice A1 n1 k1] 24 (0, 0)) := by rw [hW0]; exact heap_alloc_new w _
 have up : ∀ W, Below W0.heap.size W0 W → Below w.heap.size w W := fun W hW => below_then hb0 hb0.size hW
 have CA6 := Lib.hid fun (W : World) (hW : Below W0.heap.size W0 W) => c6 a.kind a.float a.delta a.mono A1 n1 k1 a.dots W ((ha.below (up W hW)).more (up W hW).size)
 have CA7 := Lib.hid fun (W : World) (hW : Below W0.heap.size W0 W) => c7 a.kind a.float a.delta a.mono A1 n1 k1 a.dots W ((ha.below (up W hW)).more (up W hW).size)
 have C8 := Lib.hid fun (W : World) (hW : Below W0.heap.size W0 W) (ra : Right a.kind a.float a.dots) => c8one a A1 n1 k1 W ((ha.below (up W hW)).more (up W hW).size) ra
 have C9 := Lib.hid fun (W : World) (hW : Below W0.heap.size W0 W) => c9 W (utf8_below hT hT4 (up W hW)) (Nat.lt_of_lt_of_le hT4 (up W hW).size)
 have C11 := Lib.hid fun (it iv : Bool) (b : Data) (hb : Turned a b) (ob : ∀ x ∈ b.dots, x.1.Ok) (W : World) (hW : Below W0.heap.size W0 W) (ra : Right a.kind a.float a.dots) (P1 P2 : Option Addr) (m1 q1 m2 q2 : Nat) (h1 : Conv W a.dots P1 m1 q1) (h2 : Conv W b.dots P2 m2 q2) => c11c it iv a b h1 h2 ra (hb.right ra) oa ob (utf8_below hT hT4 (up W hW)) (Nat.lt_of_lt_of_le hT4 (up W hW).size)
 have C11r := Lib.hid fun (it iv : Bool) (b : Data) (hb : Turned a b) (ob : ∀ x ∈ b.dots, x.1.Ok) (W : World) (hW : Below W0.heap.size W0 W) (ra : Right a.kind a.float a.dots) (P1 P2 : Option Addr) (m1 q1 m2 q2 : Nat) (h1 : Conv W a.dots P1 m1 q1) (h2 : Conv W b.dots P2 m2 q2) => c11c it iv b a h2 h1 (hb.right ra) ra ob oa (utf8_below hT hT4 (up W hW)) (Nat.lt_of_lt_of_le hT4 (up W hW).size)
 have HA := Lib.hid fun (W : World) (hW : Below W0.heap.size W0 W) => (ha.below (up W hW)).more (up W hW).size
 have HA0 := Lib.hid ha
 have HLN := Lib.hid hln
 have HB := Lib.hid hb0
 have HZA := Lib.hid hzA
 have HW := Lib.hid hW0
 have HS0 := Lib.hid hs0
 have HUP := Lib.hid up
 have X0 := Lib.hid x0
 have X1 := Lib.hid x1
 have X2 := Lib.hid x2
 have X3 := Lib.hid x3
 have X4 := Lib.hid x4
 clear hW0 hb0 hs0 up ha hT hzA hln
 go_enter Tryz.func4, Tryz.ntmps4
 go_upto_region 1 with fail
 rw [← HW.out]
 try simp only [Act.put]
 go_cut [14] from 12 (fun s wx => (∃ r, s = .bool r) ∧ Below W0.heap.size W0 wx)
 case first => (
 as_aux_lemma => (
 go_wp2_with (go_at_call 6; (with_reducible refine (CA6.out _ (Below.refl _ _)).mono ?_); rintro e w1 ⟨⟨r, rfl⟩, hb1⟩; have x0 := cellk X0.out hb1; have x1 := cellk X1.out hb1; have x2 := cellk X2.out hb1; have x3 := cellk X3.out hb1; have x4 := cellk X4.out hb1; cases r)
 all_goals go_meet
 all_goals exact ⟨⟨_, rfl⟩, hb1⟩))
 case rest => (
 obtain ⟨⟨r, rfl⟩, hbc⟩ := hcut
 obtain ⟨Wa, rfl⟩ : ∃ W : World, W = wc := ⟨_, rfl⟩
 have HBA := Lib.hid hbc
 clear hbc
 replace x0 := cellk X0.out HBA.out
 replace x1 := cellk X1.out HBA.out
 replace x2 := cellk X2.out HBA.out
 replace x3 := cellk X3.out HBA.out
 replace x4 := cellk X4.out HBA.out
 cases r
 case true => (
 as_aux_lemma => (
 go_wp2_with fail
 go_ret
 exact ⟨rfl, HUP.out _ HBA.out⟩))
 case false => (
 as_aux_lemma => (
 go_upto_region 3 with fail
 go_cut [23] from 15 (fun s wx => (∃ r, s = .bool r ∧ (r = false → Right a.kind a.float a.dots)) ∧ Below W0.heap.size W0 wx)
 case first => (
 as_aux_lemma => (
 go_wp2_with (first
  | (go_at_call 7; (with_reducible refine (CA7.out _ HBA.out).mono ?_); rintro e w3 ⟨⟨r, rfl, hra⟩, hb3⟩; have hq3 := below_then HBA.out HBA.out.size hb3; have x0 := cellk X0.out hq3; have x1 := cellk X1.out hq3; have x2 := cellk X2.out hq3; have x3 := cellk X3.out hq3; have x4 := cellk X4.out hq3; cases r)
  | ((with_reducible refine arm_bs1 24 52 (.tmp 19) 5 (infoD_four infoD24) Tryz.underlying52 (by decide) (c1 := #[.int .u8 a.kind, .bool a.float, .bool a.delta, .bool a.mono, .slice A1 n1 k1]) rfl ?_ ?_ ?_); kernel_rfl; rfl)
  | (go_at_call 8; have hra2 := hra (by trivial); (with_reducible refine (C8.out _ hq3 hra2).mono ?_); rintro e w5 ⟨⟨r, rfl⟩, hb5⟩; have hq5 := below_then hq3 hq3.size hb5; cases r))
 all_goals go_meet
 all_goals first
  | exact ⟨⟨_, rfl, fun h => Bool.noConfusion h⟩, hq5⟩
  | exact ⟨⟨_, rfl, fun h => Bool.noConfusion h⟩, hq3⟩
  | exact ⟨⟨_, rfl, fun _ => hra2⟩, hq5⟩))
 case rest => (
 obtain ⟨⟨r, rfl, hrr⟩, hbc⟩ := hcut
 obtain ⟨Wb, rfl⟩ : ∃ W : World, W = wc := ⟨_, rfl⟩
 have HBB := Lib.hid hbc
 clear hbc HBA
 replace x0 := cellk X0.out HBB.out
 replace x1 := cellk X1.out HBB.out
 replace x2 := cellk X2.out HBB.out
 replace x3 := cellk X3.out HBB.out
 replace x4 := cellk X4.out HBB.out
 cases r
 case true => (
 as_aux_lemma => (
 go_wp2_with (go_at_call 9; (with_reducible refine (C9.out _ HBB.out).mono ?_); rintro e w6 ⟨rfl, hb6⟩)
 go_ret
 exact ⟨rfl, HUP.out _ (below_then HBB.out HBB.out.size hb6)⟩))
 case false => (
 have ra := hrr rfl
 clear hrr
 obtain ⟨xb, hxb⟩ : ∃ x, x = Wb.heap.size := ⟨_, rfl⟩
 obtain ⟨Wc, hWc⟩ : ∃ W, W = Wb.alloc (.cells #[.int .u8 a.kind, .bool a.float, .bool a.delta, .bool a.mono, .slice A1 n1 k1] 24) := ⟨_, rfl⟩
 have hbc : Below Wb.heap.size Wb Wc := bq hWc
 have hzb : Wc.heap[xb]? = some (.cells #[.int .u8 a.kind, .bool a.float, .bool a.delta, .bool a.mono, .slice A1 n1 k1] 24 (0, 0)) := by rw [hWc, hxb]; exact heap_alloc_new Wb _
 have hsc : Wc.heap.size = xb + 1 := by rw [hWc, hxb]; simp
 have HWC := Lib.hid hWc
 have HXB := Lib.hid hxb
 have HBC := Lib.hid (below_then HBB.out HBB.out.size hbc)
 have HBC' := Lib.hid hbc
 have HZB := Lib.hid hzb
 have HSC := Lib.hid hsc
 clear hWc hxb hbc hzb hsc
 as_aux_lemma => (
 go_upto_region 6 with ((with_reducible apply arm_store_new 5 info24'); rfl; simp; rfl; rfl; rfl; rfl)
 rw [← HWC.out, ← HXB.out]
 try simp only [Act.put]
 clear HWC
 replace x0 := cellk X0.out HBC.out
 replace x1 := cellk X1.out HBC.out
 replace x2 := cellk X2.out HBC.out
 replace x3 := cellk X3.out HBC.out
 replace x4 := cellk X4.out HBC.out
 go_upto_if 30 with fail
 go_cut [7, 30] from 31 (fun _ _ wx => ∃ (A2 : Option Addr) (k2 : Nat) (l : List (Dot × Sl5)), wx.heap[xb]? = some (.cells #[.int .u8 a.kind, .bool a.float, .bool a.delta, .bool a.mono, .slice A2 n1 k2] 24 (0, 0)) ∧ l.Perm a.dots ∧ Rd wx wx.heap.size 18 A2 n1 k2 (rowsD l) ∧ Below Wb.heap.size Wb wx)
 case first => (
 by_cases hn : 0 < n1
 · (
 obtain ⟨bA, oA, eA, hbA, hcA⟩ := HA0.out.rd.mem hn
 subst eA
 have hcA' : ∀ W, Below w.heap.size w W → W.rangeAt bA oA (rowsD a.dots).flatten := fun W hW j v hv => (hW.cell (p := ⟨bA, oA + j, none⟩) hbA).trans (hcA j v hv)
 have HCA := Lib.hid hcA'
 have HTM : Hid (∃ K : Nat, t % (n1 : Int) = K ∧ K < n1) := Lib.hid ⟨(t % (n1 : Int)).toNat, by have := Int.emod_nonneg t (b := (n1 : Int)) (by omega); omega, by have h1 := Int.emod_nonneg t (b := (n1 : Int)) (by omega); have h2 := Int.emod_lt_of_pos t (b := (n1 : Int)) (by omega); omega⟩
 obtain ⟨K, hK, hKn⟩ := HTM.out
 have f1 : decide ((0 : Int) < (n1 : Int)) = true := by simp; omega
 have f0 : (0 : Int) < (n1 : Int) := by omega
 have f2 : (K : Int) < (n1 : Int) := by omega
 have f3 : (n1 : Int) ≤ (k1 : Int) := by omega
 clear HTM hcA hcA'
 as_aux_lemma => (
 go_upto_region 9 with fail
 have zA : Wc.drew.heap[w.heap.size]? = some (.cells #[.int .u8 a.kind, .bool a.float, .bool a.delta, .bool a.mono, .slice (some ⟨bA, oA, none⟩) n1 k1] 24 (0, 0)) := (HBC.out.block _ (Array.getElem?_eq_some_iff.1 HZA.out).1).trans HZA.out
 obtain ⟨Wd, hWd⟩ : ∃ Wd, Wd = Wc.drew := ⟨_, rfl⟩
 have hBd : Below Wb.heap.size Wb Wd := by rw [hWd]; exact below_drew HBC'.out
 have hBd0 : Below W0.heap.size W0 Wd := by rw [hWd]; exact below_drew HBC.out
 have hsd : Wd.heap.size = xb + 1 := by rw [hWd]; exact HSC.out
 refine wp_region_held_drew (S := fun w' => w'.heap[w.heap.size]? = some (.cells #[.int .u8 a.kind, .bool a.float, .bool a.delta, .bool a.mono, .slice (some ⟨bA, oA, none⟩) n1 k1] 24 (0, 0))) (by kernel_rfl) zA (fun hHeld => ?_)
 rw [← hWd] at hHeld ⊢
 have zB : Wd.heap[xb]? = some (.cells #[.int .u8 a.kind, .bool a.float, .bool a.delta, .bool a.mono, .slice (some ⟨bA, oA, none⟩) n1 k1] 24 (0, 0)) := by rw [hWd]; exact HZB.out
 clear hWd zA
 refine tk 0 35 (v := .pointer (some ⟨w.heap.size, 4, none⟩)) (a' := ?_) rfl rfl ?_ ?_ rfl ?_
 rotate_left 1
 · intro w2 hSw; go_simp
 · simp only [sI, s0, sS]; exact rfl
 refine tk 1 36 (v := .slice (some ⟨bA, oA, none⟩) n1 k1) (a' := ?_) rfl rfl ?_ ?_ rfl ?_
 rotate_left 1
 · intro w2 hSw; have q := blk_cell hSw 4 _ rfl; go_simp
 · simp only [sI, s0, sS]; exact rfl
 refine tk 2 37 (v := .int .i64 K) (a' := ?_) rfl rfl ?_ ?_ rfl ?_
 rotate_left 1
 · intro w2 hSw; go_simp
 · simp only [sI, s0, sS]; exact rfl
 refine tk 3 38 (v := .slice (some ⟨bA, oA + K * 18, none⟩) (n1 - K) (k1 - K)) (a' := ?_) rfl rfl ?_ ?_ rfl ?_
 rotate_left 1
 · intro w2 hSw; go_simp; rw [if_pos (by omega), if_neg (by omega)]
 · simp only [sI, s0, sS]; exact rfl
 refine tk 5 40 (v := .pointer (some ⟨w.heap.size, 4, none⟩)) (a' := ?_) rfl rfl ?_ ?_ rfl ?_
 rotate_left 1
 · intro w2 hSw; go_simp
 · simp only [sI, s0, sS]; exact rfl
 refine tk 6 41 (v := .slice (some ⟨bA, oA, none⟩) n1 k1) (a' := ?_) rfl rfl ?_ ?_ rfl ?_
 rotate_left 1
 · intro w2 hSw; have q := blk_cell hSw 4 _ rfl; go_simp
 · simp only [sI, s0, sS]; exact rfl
 refine tk 7 42 (v := .int .i64 K) (a' := ?_) rfl rfl ?_ ?_ rfl ?_
 rotate_left 1
 · intro w2 hSw; go_simp
 · simp only [sI, s0, sS]; exact rfl
 refine tk 8 43 (v := .slice (some ⟨bA, oA, none⟩) K k1) (a' := ?_) rfl rfl ?_ ?_ rfl ?_
 rotate_left 1
 · intro w2 hSw; go_simp; intro h; omega
 · simp only [sI, s0, sS]; exact rfl
 have hlen := HLN.out
 have hrow : ∀ r ∈ rowsD a.dots, r.length = 18 := fun r hr => by obtain ⟨q, _, rfl⟩ := List.mem_map.1 hr; rfl
 have hrd1 : Rd Wd Wd.heap.size 18 (some ⟨bA, oA + K * 18, none⟩) (n1 - K) (k1 - K) (rowsD (a.dots.drop K)) := by
  have hr := (HA0.out.below (HUP.out _ hBd0)).rd
  have h20 := ra.2.1
  refine ⟨by simp [rowsD, hlen], by omega, by omega, by omega, fun r hr => hrow r (by unfold rowsD at hr ⊢; rw [List.map_drop] at hr; exact List.drop_subset _ _ hr), fun _ => ⟨bA, oA + K * 18, rfl, Nat.lt_of_lt_of_le hbA (HUP.out _ hBd0).size, fun j v hv => ?_⟩⟩
  have h1 := HCA.out _ (HUP.out _ hBd0) (K * 18 + j) v (by rw [← (rows_split a.dots K).2, List.getElem?_drop] at hv; exact hv)
  rw [Nat.add_assoc]
  exact h1
 have C12 := c12 (some ⟨bA, oA + K * 18, none⟩) (n1 - K) (k1 - K) (a.dots.drop K) Wd hrd1 (by have := ra.2.1; omega)
 refine wpAnyH_ready (rs := [4]) (by kernel_rfl) (by simp) ?_
 refine AllReadyH.cons (o := _) rfl (fun K' hK' => ?_) AllReadyH.nil
 go_simp
 refine C12.mono ?_
 rintro e w1 ⟨v, rfl, hown, hb1⟩
 try dsimp only
 refine hK'.out _ _ ((hb1.block _ (Array.getElem?_eq_some_iff.1 hHeld).1).trans hHeld) (fun hHeld => ?_)
 clear hK' K'
 try simp only [Act.put, sI, s0, sS]
 have hnews : ∀ j u, (rowsD (a.dots.take K)).flatten[j]? = some u → w1.cell? ((⟨bA, oA, none⟩ : Addr).add j) = some u := fun j u hu => by
  rw [Addr.add_mid]
  refine HCA.out _ (below_then (HUP.out _ hBd0) (HUP.out _ hBd0).size hb1) j u ?_
  rw [← (rows_split a.dots K).1, List.getElem?_take] at hu
  split at hu
  · exact hu
  · cases hu
 obtain ⟨i0, z0, hi0, hz0, hz1, hz2, hz3⟩ := infoD42
 refine wpAnyH_ready (rs := [9]) (by kernel_rfl) (by simp) ?_
 refine AllReadyH.cons (o := _) rfl (fun K' hK' => ?_) AllReadyH.nil
 rw [if_pos (by kernel_rfl)]
 refine wp_append_own _ (.tmp 39) (.tmp 43) 22 rfl Wd.heap.size 42 i0 z0 18 216 Tryz.underlying22 hi0 hz0 hz1 hz2 hz3 (by decide) v (n1 - K) _ rfl hown ⟨bA, oA, none⟩ K k1 (rowsD (a.dots.take K)).flatten rfl ?_ hnews (one_dots _) ?_ ?_ hb1.size ?_
 · rw [← (rows_split a.dots K).1, List.length_take, rows_len, hlen]; omega
 · simp only [maxLen]; have := ra.2.1; omega
 · have := ra.2.1; omega
 intro v2 w2 hown2 hg2 _
 obtain ⟨A2, k2, rfl⟩ := own_slice hown2
 rw [show n1 - K + K = n1 by omega] at hown2 ⊢
 rw [put_some (dd := 44)]
 rotate_left 1
 · rfl
 rw [show (rowsD (a.dots.drop K)).flatten ++ (rowsD (a.dots.take K)).flatten = (rowsD (a.dots.drop K ++ a.dots.take K)).flatten by simp [rowsD]] at hown2
 have hvne : ∀ k, v.ownBlock = some k → Wd.heap.size ≤ k := fun k hk => (hown.lt k hk).1
 have hd2 : Below Wd.heap.size Wd w2 := hb1.grown hg2 hb1.size hvne
 refine hK'.out _ _ ((hd2.block _ (Array.getElem?_eq_some_iff.1 ((hBd0.block _ (Array.getElem?_eq_some_iff.1 HZA.out).1).trans HZA.out)).1).trans ((hBd0.block _ (Array.getElem?_eq_some_iff.1 HZA.out).1).trans HZA.out)) (fun hHeld => ?_)
 clear hK' K'
 try dsimp only [Act.put]
 try simp only [Act.put, sI, s0, sS]
 refine tk 10 45 (v := .pointer (some ⟨xb, 4, none⟩)) (a' := ?_) rfl rfl ?_ ?_ rfl ?_
 rotate_left 1
 · intro w2 hSw; go_simp
 · simp only [sI, s0, sS]; exact rfl
 have zb2 := (hd2.block _ (by omega)).trans zB
 have cb2 := blk_cell zb2 4 _ rfl
 have fb2 := frozen_blk zb2 4
 refine wpAnyH_ready (rs := [11]) (by kernel_rfl) (by simp) ?_
 refine AllReadyH.cons (o := _) rfl (fun K' hK' => ?_) AllReadyH.nil
 go_simp
 obtain ⟨W3, hW3⟩ : ∃ W, W = w2.setCell ⟨xb, 4, none⟩ (.slice A2 n1 k2) := ⟨_, rfl⟩
 rw [← hW3]
 have hlo : xb < Wd.heap.size := by omega
 have hoth : ∀ b, b ≠ xb → W3.heap[b]? = w2.heap[b]? := fun b hb => by rw [hW3]; exact heap_setCell_other _ _ _ _ hb
 have z3 : W3.heap[xb]? = some (.cells #[.int .u8 a.kind, .bool a.float, .bool a.delta, .bool a.mono, .slice A2 n1 k2] 24 (0, 0)) := by rw [hW3, heap_setCell_same w2 xb 4 _ _ _ zb2]; rfl
 have hs3 : W3.heap.size = w2.heap.size := by rw [hW3]; simp [World.setCell]
 obtain ⟨g, cap, hv, hbg, hgl, hnc, hcm⟩ := own_some hown2 hn
 injection hv with hv1 _ hv2
 subst hv1 hv2
 have hown3 : W3.ownsRow Wd.heap.size 42 18 (.slice (some ⟨g, 0, none⟩) n1 k2) n1 (rowsD (a.dots.drop K ++ a.dots.take K)).flatten := own_of_block hown2 (fun g' hg' => by injection hg' with hg'; exact hoth g' (by have : g = g' := hg'; omega))
 have hb3 : Below Wb.heap.size Wb W3 := by rw [hW3]; exact (below_then hBd hBd.size hd2).setCell (by have := HXB.out; show Wb.heap.size ≤ xb; omega) _
 have hxa : w.heap.size ≠ xb := by have := HXB.out; have := HBB.out.size; have := HS0.out; omega
 refine hK'.out _ _ ((hoth _ hxa).trans ((hd2.block _ (Array.getElem?_eq_some_iff.1 ((hBd0.block _ (Array.getElem?_eq_some_iff.1 HZA.out).1).trans HZA.out)).1).trans ((hBd0.block _ (Array.getElem?_eq_some_iff.1 HZA.out).1).trans HZA.out))) (fun hHeld => ?_)
 clear hK' K'
 have C13 := Lib.hid (c13 hown3 hn (by simp [hlen]; omega) (by have := ra.2.1; omega))
 have c3 : W3.cell? ⟨xb, 4, none⟩ = some (.slice (some ⟨g, 0, none⟩) n1 k2) := blk_cell z3 4 _ rfl
 have Z3 := Lib.hid z3
 have HB3 := Lib.hid hb3
 have HBG := Lib.hid hbg
 have HLO := Lib.hid hlo
 have HS3 := Lib.hid hs3
 have HD2 := Lib.hid hd2.size
 clear hW3 hoth z3 hs3 hown3 hown2 hown hd2 hg2 hb3 zB cb2 fb2 zb2 hlen hrow hrd1 C12 hnews hvne hbg hlo hgl hnc hcm hsd hBd hBd0 hb1 hHeld hxa
 refine wpAnyH_done (by kernel_rfl) ?_ _
 go_wp2_with (go_at_call 13; (with_reducible refine C13.out.mono ?_); rintro e w4 ⟨rfl, hrd4, hk4⟩)
 go_meet
 have hb4 := hk4 Wd.heap.size W3 HBG.out (by have := HS3.out; have := HD2.out; omega) ((Below.refl _ _).mono (by have := HS3.out; have := HD2.out; omega))
 exact ⟨_, _, _, (hb4.block _ HLO.out).trans Z3.out, (List.reverse_perm _).trans (List.perm_append_comm.trans (by rw [List.take_append_drop])), hrd4, hk4 _ _ (by have := HBG.out; have := HLO.out; have := HXB.out; omega) (by have := HB3.out.size; omega) HB3.out⟩))
 · (
 have f1 : decide ((0 : Int) < (n1 : Int)) = false := by simp; omega
 as_aux_lemma => (
 go_wp2_with fail
 go_meet
 exact ⟨_, _, _, HZB.out, List.Perm.refl _, (HA.out _ HBC.out).rd, HBC'.out⟩)))
 case rest => (
 obtain ⟨A2, k2, l, z2, hpm, hrd2, hb2⟩ := hcut
 obtain ⟨Wp, rfl⟩ : ∃ W : World, W = wc := ⟨_, rfl⟩
 have hll : l.length = n1 := by rw [hpm.length_eq]; exact HLN.out
 have h20 : n1 ≤ 1000 := by have := ra.2.1; have := HLN.out; omega
 have C12 := Lib.hid (c12 A2 n1 k2 l Wp hrd2 h20)
 have c2 : Wp.cell? ⟨xb, 4, none⟩ = some (.slice A2 n1 k2) := blk_cell z2 4 _ rfl
 have HPM := Lib.hid hpm
 have HLL := Lib.hid hll
 have H20 := Lib.hid h20
 have HB2 := Lib.hid hb2
 have Z2 := Lib.hid z2
 clear hpm hll hrd2 hb2 z2 h20
 as_aux_lemma => (
 go_upto_region 12 with (go_at_call 12; (with_reducible refine C12.out.mono ?_); rintro e w1 ⟨v, rfl, hown, hb1⟩; obtain ⟨A3, k3, rfl⟩ := own_slice hown; have c2b := cellk c2 hb1; have f2b := frozen_blk ((hb1.block _ (Array.getElem?_eq_some_iff.1 Z2.out).1).trans Z2.out) 4)
 obtain ⟨W5, hW5⟩ : ∃ W, W = w1.setCell ⟨xb, 4, none⟩ (.slice A3 n1 k3) := ⟨_, rfl⟩
 rw [← hW5]
 have z1 := (hb1.block _ (Array.getElem?_eq_some_iff.1 Z2.out).1).trans Z2.out
 have z5 : W5.heap[xb]? = some (.cells #[.int .u8 a.kind, .bool a.float, .bool a.delta, .bool a.mono, .slice A3 n1 k3] 24 (0, 0)) := by rw [hW5, heap_setCell_same w1 xb 4 _ _ _ z1]; rfl
 have hxp : xb < Wp.heap.size := (Array.getElem?_eq_some_iff.1 Z2.out).1
 have hown5 : W5.ownsRow Wp.heap.size 42 18 (.slice A3 n1 k3) n1 (rowsD l).flatten := own_of_block hown (fun g' hg' => by rw [hW5]; exact heap_setCell_other _ _ _ _ (by have := (hown.lt g' hg').1; show g' ≠ xb; omega))
 have hb5 : Below Wb.heap.size Wb W5 := by rw [hW5]; exact (below_then HB2.out HB2.out.size hb1).setCell (by have := HXB.out; show Wb.heap.size ≤ xb; omega) _
 have htr : TLR a Wb xb Wp.heap.size n1 A3 k3 (l.map (·.1)) 0 W5 := TLR.first hb5 z5 hown5 H20.out ⟨by have := HXB.out; omega, hxp⟩ HLL.out (fun x hx => (HA0.out.below (HUP.out _ (below_then HBB.out HBB.out.size hb5))).all x (HPM.out.subset hx)) (Nat.le_trans HB.out.size HBB.out.size)
 have c5 : W5.cell? ⟨xb, 4, none⟩ = some (.slice A3 n1 k3) := blk_cell z5 4 _ rfl
 have HTR := Lib.hid htr
 clear hW5 z1 z5 hown5 hb5 htr hown hb1 c2 c2b f2b hxp
 as_aux_lemma => (
 go_upto_region 13 with fail
 as_aux_lemma => (
 go_loopw [8, 9, 56] (fun _ _ i wr => ∃ k : Nat, k ≤ n1 ∧ i = .int .i64 k ∧ TLR a Wb xb Wp.heap.size n1 A3 k3 (l.map (·.1)) k wr) (fun _ _ i _ => n1 - (intOf i).toNat)
 case atStart => exact ⟨0, Nat.zero_le _, rfl, HTR.out⟩
 case round => (
 obtain ⟨k, hk, rfl, htr⟩ := hrel
 obtain ⟨wo, rfl⟩ : ∃ wo : World, wo = wr := ⟨_, rfl⟩
 have co : wo.cell? ⟨xb, 4, none⟩ = some (.slice A3 n1 k3) := blk_cell htr.blk 4 _ rfl
 by_cases hlt : k < n1
 · (
 obtain ⟨g, rfl, htl⟩ := htr.tl (by omega)
 obtain ⟨d, s, hd, cg, fg, hra⟩ := htl.at_ hlt
 have hsn : s.n ≤ 1000 := by
  have hn := hra.numlen
  obtain ⟨x, hx, rfl⟩ := List.mem_map.1 (List.mem_of_getElem? hd)
  have := (ra.2.2 x (HPM.out.subset hx)).nattr
  omega
 have hsl := hra.numlen
 have C14 := Lib.hid (c14 s.A s.n s.c d.attrs wo hra hsn)
 have HTR := Lib.hid htr
 have HD := Lib.hid hd
 have HSN := Lib.hid hsn
 have HSL := Lib.hid hsl
 have i0 : (0 : Int) ≤ (k : Int) := by omega
 have i1 : (k : Int) < (n1 : Int) := by omega
 clear htr htl hra hd hsn hsl
 as_aux_lemma => (
 go_wp2_with (first
  | (go_at_call 14; (with_reducible refine C14.out.mono ?_); rintro e w1 ⟨v, rfl, hown, hb1⟩; have C15 := Lib.hid (c15own hown HSL.out HSN.out); have HB1 := Lib.hid hb1; clear hown hb1)
  | (go_at_call 15; (with_reducible refine C15.out.mono ?_); rintro e w2 ⟨rfl, ⟨A4, k4, rfl, hrd4, hlo4⟩, hk2⟩; have hb2 := hk2 _ _ (Nat.le_refl _) HB1.out.size HB1.out; have co2 := cellk co hb2; have cg2 := cellk cg hb2; have fg2 := (hb2.frozen (p := ⟨g, k * 18, none⟩) (World.block_lt_of_cell? wo _ cg)).trans fg))
 go_roundw
 case rel => exact ⟨k + 1, by omega, by go_num, HTR.out.step hlt HD.out hb2 hrd4 hlo4⟩
 case measure => simp [intOf]; omega))
 · (
 have hkn : k = n1 := by omega
 have f9 : ¬ (k : Int) < (n1 : Int) := by omega
 rw [hkn] at htr
 obtain ⟨m, hm, hds⟩ := htr.done
 obtain ⟨b, hbd⟩ : ∃ b : Data, b = ⟨a.kind, a.float, a.delta, a.mono, m⟩ := ⟨_, rfl⟩
 have htu : Turned a b := by rw [hbd]; exact ⟨rfl, rfl, rfl, rfl, by show (m.map (·.1)).Perm _; rw [hm]; exact (HPM.out.map _).map _⟩
 have zBo : wo.heap[xb]? = some (.cells #[.int .u8 b.kind, .bool b.float, .bool b.delta, .bool b.mono, .slice A3 n1 k3] 24 (0, 0)) := by rw [hbd]; exact htr.blk
 have hdb : DotsR wo wo.heap.size A3 n1 k3 b.dots := by rw [hbd]; exact hds
 have ob : ∀ x ∈ b.dots, x.1.Ok := fun x hx => (hdb.all x hx).ok
 have HBO := Lib.hid (below_then HBB.out HBB.out.size htr.bel)
 have HTU := Lib.hid htu
 have HDB := Lib.hid hdb
 have HOB := Lib.hid ob
 have HZBO := Lib.hid zBo
 clear htr hm hds hbd htu hdb ob zBo hkn hk co HTR HPM HLL HB2 Z2 HZB HBC HBC' C12 x0 x1 x2 x3 x4
 as_aux_lemma => (
 go_upto_region 19 with fail
 obtain ⟨Wd, hWd⟩ : ∃ Wd, Wd = wo.drew := ⟨_, rfl⟩
 have HSD : Hid (Wd.heap.size = wo.heap.size) := Lib.hid (by rw [hWd]; rfl)
 have hWbd : Below wo.heap.size wo Wd := by rw [hWd]; exact below_drew (Below.refl _ _)
 have hWd0 : Below W0.heap.size W0 Wd := by rw [hWd]; exact below_drew HBO.out
 have C10a := Lib.hid fun (W : World) (hW : Below Wd.heap.size Wd W) (X : List Nat) (hX : ∀ x ∈ X, Wd.heap.size ≤ x ∧ x < W.heap.size) => c10d a X hX hW.size ((HA.out Wd hWd0).below hW) ra
 have C10b := Lib.hid fun (W : World) (hW : Below Wd.heap.size Wd W) (X : List Nat) (hX : ∀ x ∈ X, Wd.heap.size ≤ x ∧ x < W.heap.size) => c10d b X hX hW.size (((HDB.out.below hWbd).more hWbd.size).below hW) (HTU.out.right ra)
 have zA : wo.drew.heap[w.heap.size]? = some (.cells #[.int .u8 a.kind, .bool a.float, .bool a.delta, .bool a.mono, .slice A1 n1 k1] 24 (0, 0)) := (HBO.out.block _ (Array.getElem?_eq_some_iff.1 HZA.out).1).trans HZA.out
 have zB : wo.drew.heap[xb]? = some (.cells #[.int .u8 b.kind, .bool b.float, .bool b.delta, .bool b.mono, .slice A3 n1 k3] 24 (0, 0)) := HZBO.out
 go_cut [10, 11] from 77 (fun s5 s6 wx => ∃ x5 x6 P1 m1 q1 P2 m2 q2, s5 = .pointer (some ⟨x5, 0, none⟩) ∧ s6 = .pointer (some ⟨x6, 0, none⟩) ∧ wx.heap[x5]? = some (.cells #[.int .u8 a.kind, .bool a.float, .bool a.delta, .bool a.mono, .slice P1 m1 q1] 30 (0, 0)) ∧ wx.heap[x6]? = some (.cells #[.int .u8 b.kind, .bool b.float, .bool b.delta, .bool b.mono, .slice P2 m2 q2] 30 (0, 0)) ∧ Conv wx a.dots P1 m1 q1 ∧ Conv wx b.dots P2 m2 q2 ∧ Below wo.heap.size wo wx)
 case first => (
 as_aux_lemma => (
 have zA' : Wd.heap[w.heap.size]? = some (.cells #[.int .u8 a.kind, .bool a.float, .bool a.delta, .bool a.mono, .slice A1 n1 k1] 24 (0, 0)) := by rw [hWd]; exact zA
 have zB' : Wd.heap[xb]? = some (.cells #[.int .u8 b.kind, .bool b.float, .bool b.delta, .bool b.mono, .slice A3 n1 k3] 24 (0, 0)) := by rw [hWd]; exact zB
 refine wp_region_held_drew (S := fun w' => w'.heap[w.heap.size]? = some (.cells #[.int .u8 a.kind, .bool a.float, .bool a.delta, .bool a.mono, .slice A1 n1 k1] 24 (0, 0)) ∧ w'.heap[xb]? = some (.cells #[.int .u8 b.kind, .bool b.float, .bool b.delta, .bool b.mono, .slice A3 n1 k3] 24 (0, 0))) (by kernel_rfl) ⟨zA, zB⟩ (fun hHeld => ?_)
 rw [← hWd] at hHeld ⊢
 clear hWd zA zB
 have hBd : Below Wd.heap.size Wd Wd := Below.refl _ _
 have HL1 := Lib.hid (And.intro (Array.getElem?_eq_some_iff.1 hHeld.1).1 (Array.getElem?_eq_some_iff.1 hHeld.2).1)
 refine tk 0 77 (v := .agg #[.int .u8 a.kind, .bool a.float, .bool a.delta, .bool a.mono, .slice A1 n1 k1]) (a' := ?_) rfl rfl ?_ ?_ rfl ?_
 rotate_left 1
 · intro w2 hSw; have q := hSw.1; exact run_load_all rfl hSw.1 rfl Tryz.underlying24 rfl info24'
 · simp only [sI, s0, sS]; exact rfl
 refine tk 2 79 (v := .agg #[.int .u8 b.kind, .bool b.float, .bool b.delta, .bool b.mono, .slice A3 n1 k3]) (a' := ?_) rfl rfl ?_ ?_ rfl ?_
 rotate_left 1
 · intro w2 hSw; have q := hSw.2; exact run_load_all rfl hSw.2 rfl Tryz.underlying24 rfl info24'
 · simp only [sI, s0, sS]; exact rfl
 refine wpAnyH_ready (rs := [1, 4, 5]) (by kernel_rfl) (by simp) ?_
 refine (AllReadyH.cons (o := _) rfl (fun K hK => ?_) (AllReadyH.cons (o := _) rfl (fun K hK => ?_) (AllReadyH.cons (o := _) rfl (fun K hK => ?_) AllReadyH.nil)))
 · as_aux_lemma => (
 go_simp
 refine (C10a.out Wd hBd [] (by simp)).mono ?_
 rintro e w1 ⟨P1, q1, rfl, hv1, hb1⟩
 try dsimp only
 have hB1 := below_then hBd hBd.size hb1
 have hz1 := hb1.size
 refine hK.out _ _ ⟨kp hb1 hHeld.1, kp hb1 hHeld.2⟩ (fun hHeld => ?_)
 clear hK K
 try dsimp only [Act.put]
 try simp only [Act.put, sI, s0, sS]
 refine wpAnyH_ready (rs := [3, 4, 5]) (by kernel_rfl) (by simp) ?_
 refine (AllReadyH.cons (o := _) rfl (fun K hK => ?_) (AllReadyH.cons (o := _) rfl (fun K hK => ?_) (AllReadyH.cons (o := _) rfl (fun K hK => ?_) AllReadyH.nil)))
 · as_aux_lemma => (
 go_simp
 refine (C10b.out w1 hB1 [] (by simp)).mono ?_
 rintro e w2 ⟨P2, q2, rfl, hv2, hb2⟩
 try dsimp only
 have hB2 := below_then hB1 hB1.size hb2
 have hz2 := hb2.size
 have hv1 := hv1.below hb2
 refine hK.out _ _ ⟨kp hb2 hHeld.1, kp hb2 hHeld.2⟩ (fun hHeld => ?_)
 clear hK K
 try dsimp only [Act.put]
 try simp only [Act.put, sI, s0, sS]
 refine wpAnyH_ready (rs := [4, 5]) (by kernel_rfl) (by simp) ?_
 refine (AllReadyH.cons (o := _) rfl (fun K hK => ?_) (AllReadyH.cons (o := _) rfl (fun K hK => ?_) AllReadyH.nil))
 · as_aux_lemma => (
 refine step_alloc zb30 (fun _ => by kernel_rfl) _ (by kernel_rfl) 10 rfl ?_
 have hb3 := ab w2 zb30
 have hB3 := below_then hB2 hB2.size hb3
 have hz3 := az w2 zb30
 have z5 := heap_alloc_new w2 zb30
 have hv1 := hv1.alloc zb30
 have hv2 := hv2.alloc zb30
 refine hK.out _ _ ⟨kp hb3 hHeld.1, kp hb3 hHeld.2⟩ (fun hHeld => ?_)
 clear hK K
 try dsimp only [Act.put]
 try simp only [Act.put, sI, s0, sS]
 generalize w2.alloc zb30 = w3 at *
 refine wpAnyH_ready (rs := [5]) (by kernel_rfl) (by simp) ?_
 refine (AllReadyH.cons (o := _) rfl (fun K hK => ?_) AllReadyH.nil)
 · as_aux_lemma => (
 refine step_alloc zb30 (fun _ => by kernel_rfl) _ (by kernel_rfl) 11 rfl ?_
 have hb4 := ab w3 zb30
 have hB4 := below_then hB3 hB3.size hb4
 have hz4 := az w3 zb30
 have z5 := kp hb4 z5
 have z6 := heap_alloc_new w3 zb30
 have hv1 := hv1.alloc zb30
 have hv2 := hv2.alloc zb30
 refine hK.out _ _ ⟨kp hb4 hHeld.1, kp hb4 hHeld.2⟩ (fun hHeld => ?_)
 clear hK K
 try dsimp only [Act.put]
 try simp only [Act.put, sI, s0, sS]
 generalize w3.alloc zb30 = w4 at *
 have hne : w2.heap.size ≠ w3.heap.size := by have := HSD.out; have := hz3.out; have := hz4.out; omega
 have hlow : Wd.heap.size ≤ w2.heap.size ∧ Wd.heap.size ≤ w3.heap.size := by have := HSD.out; have := hz3.out; have := hz4.out; have := hB4.size; omega
 refine wpAnyH_ready (rs := [6]) (by kernel_rfl) (by simp) ?_
 refine ar1 rfl (fun K hK => ?_)
 refine store_whole 30 (.tmp 10) (.tmp 78) rfl rfl 5 rfl rfl z5 ⟨rfl, rfl⟩ info30' rfl _ (by kernel_rfl) (fun u1 h31 h32 h33 h34 => ?_)
 have z6 := (h32 _ hne.symm).trans z6
 have hv1 := hv1.store (x := w2.heap.size) (by simp) h32 h34
 have hv2 := hv2.store (x := w2.heap.size) (by simp) h32 h34
 refine hK.out _ _ ⟨(h32 _ (by have := HL1.out; omega)).trans hHeld.1, (h32 _ (by have := HL1.out; omega)).trans hHeld.2⟩ (fun hHeld => ?_)
 clear hK K
 try dsimp only [Act.put]
 try simp only [Act.put, sI, s0, sS]
 refine wpAnyH_ready (rs := [7]) (by kernel_rfl) (by simp) ?_
 refine ar1 rfl (fun K hK => ?_)
 refine store_whole 30 (.tmp 11) (.tmp 80) rfl rfl 5 rfl rfl z6 ⟨rfl, rfl⟩ info30' rfl _ (by kernel_rfl) (fun u2 h41 h42 h43 h44 => ?_)
 have z5 := (h42 _ hne).trans h31
 have hv1 := hv1.store (x := w3.heap.size) (by simp) h42 h44
 have hv2 := hv2.store (x := w3.heap.size) (by simp) h42 h44
 refine hK.out _ _ ⟨(h42 _ (by have := HL1.out; omega)).trans hHeld.1, (h42 _ (by have := HL1.out; omega)).trans hHeld.2⟩ (fun hHeld => ?_)
 clear hK K
 refine wpAnyH_done (by kernel_rfl) ?_ _
 go_wp2_with fail
 go_meet
 exact ⟨_, _, P1, n1, q1, P2, n1, q2, rfl, rfl, z5, h41, hv1.conv, hv2.conv, below_then hWbd hWbd.size (h43 _ _ hlow.2 (h33 _ _ hlow.1 hB4))⟩))
 · as_aux_lemma => (
 refine step_alloc zb30 (fun _ => by kernel_rfl) _ (by kernel_rfl) 11 rfl ?_
 have hb3 := ab w2 zb30
 have hB3 := below_then hB2 hB2.size hb3
 have hz3 := az w2 zb30
 have z6 := heap_alloc_new w2 zb30
 have hv1 := hv1.alloc zb30
 have hv2 := hv2.alloc zb30
 refine hK.out _ _ ⟨kp hb3 hHeld.1, kp hb3 hHeld.2⟩ (fun hHeld => ?_)
 clear hK K
 try dsimp only [Act.put]
 try simp only [Act.put, sI, s0, sS]
 generalize w2.alloc zb30 = w3 at *
 refine wpAnyH_ready (rs := [4]) (by kernel_rfl) (by simp) ?_
 refine (AllReadyH.cons (o := _) rfl (fun K hK => ?_) AllReadyH.nil)
 · as_aux_lemma => (
 refine step_alloc zb30 (fun _ => by kernel_rfl) _ (by kernel_rfl) 10 rfl ?_
 have hb4 := ab w3 zb30
 have hB4 := below_then hB3 hB3.size hb4
 have hz4 := az w3 zb30
 have z6 := kp hb4 z6
 have z5 := heap_alloc_new w3 zb30
 have hv1 := hv1.alloc zb30
 have hv2 := hv2.alloc zb30
 refine hK.out _ _ ⟨kp hb4 hHeld.1, kp hb4 hHeld.2⟩ (fun hHeld => ?_)
 clear hK K
 try dsimp only [Act.put]
 try simp only [Act.put, sI, s0, sS]
 generalize w3.alloc zb30 = w4 at *
 have hne : w3.heap.size ≠ w2.heap.size := by have := HSD.out; have := hz3.out; have := hz4.out; omega
 have hlow : Wd.heap.size ≤ w3.heap.size ∧ Wd.heap.size ≤ w2.heap.size := by have := HSD.out; have := hz3.out; have := hz4.out; have := hB4.size; omega
 refine wpAnyH_ready (rs := [6]) (by kernel_rfl) (by simp) ?_
 refine ar1 rfl (fun K hK => ?_)
 refine store_whole 30 (.tmp 10) (.tmp 78) rfl rfl 5 rfl rfl z5 ⟨rfl, rfl⟩ info30' rfl _ (by kernel_rfl) (fun u1 h31 h32 h33 h34 => ?_)
 have z6 := (h32 _ hne.symm).trans z6
 have hv1 := hv1.store (x := w3.heap.size) (by simp) h32 h34
 have hv2 := hv2.store (x := w3.heap.size) (by simp) h32 h34
 refine hK.out _ _ ⟨(h32 _ (by have := HL1.out; omega)).trans hHeld.1, (h32 _ (by have := HL1.out; omega)).trans hHeld.2⟩ (fun hHeld => ?_)
 clear hK K
 try dsimp only [Act.put]
 try simp only [Act.put, sI, s0, sS]
 refine wpAnyH_ready (rs := [7]) (by kernel_rfl) (by simp) ?_
 refine ar1 rfl (fun K hK => ?_)
 refine store_whole 30 (.tmp 11) (.tmp 80) rfl rfl 5 rfl rfl z6 ⟨rfl, rfl⟩ info30' rfl _ (by kernel_rfl) (fun u2 h41 h42 h43 h44 => ?_)
 have z5 := (h42 _ hne).trans h31
 have hv1 := hv1.store (x := w2.heap.size) (by simp) h42 h44
 have hv2 := hv2.store (x := w2.heap.size) (by simp) h42 h44
 refine hK.out _ _ ⟨(h42 _ (by have := HL1.out; omega)).trans hHeld.1, (h42 _ (by have := HL1.out; omega)).trans hHeld.2⟩ (fun hHeld => ?_)
 clear hK K
 refine wpAnyH_done (by kernel_rfl) ?_ _
 go_wp2_with fail
 go_meet
 exact ⟨_, _, P1, n1, q1, P2, n1, q2, rfl, rfl, z5, h41, hv1.conv, hv2.conv, below_then hWbd hWbd.size (h43 _ _ hlow.2 (h33 _ _ hlow.1 hB4))⟩)))
 · as_aux_lemma => (
 refine step_alloc zb30 (fun _ => by kernel_rfl) _ (by kernel_rfl) 10 rfl ?_
 have hb2 := ab w1 zb30
 have hB2 := below_then hB1 hB1.size hb2
 have hz2 := az w1 zb30
 have z5 := heap_alloc_new w1 zb30
 have hv1 := hv1.alloc zb30
 refine hK.out _ _ ⟨kp hb2 hHeld.1, kp hb2 hHeld.2⟩ (fun hHeld => ?_)
 clear hK K
 try dsimp only [Act.put]
 try simp only [Act.put, sI, s0, sS]
 generalize w1.alloc zb30 = w2 at *
 refine wpAnyH_ready (rs := [3, 5]) (by kernel_rfl) (by simp) ?_
 refine (AllReadyH.cons (o := _) rfl (fun K hK => ?_) (AllReadyH.cons (o := _) rfl (fun K hK => ?_) AllReadyH.nil))
 · as_aux_lemma => (
 go_simp
 refine (C10b.out w2 hB2 [w1.heap.size] (by simp only [List.mem_cons, List.not_mem_nil, or_false]; have := HSD.out; have := hz2.out; have := hB2.size; omega)).mono ?_
 rintro e w3 ⟨P2, q2, rfl, hv2, hb3⟩
 try dsimp only
 have hB3 := below_then hB2 hB2.size hb3
 have hz3 := hb3.size
 have z5 := kp hb3 z5
 have hv1 := hv1.below hb3
 refine hK.out _ _ ⟨kp hb3 hHeld.1, kp hb3 hHeld.2⟩ (fun hHeld => ?_)
 clear hK K
 try dsimp only [Act.put]
 try simp only [Act.put, sI, s0, sS]
 refine wpAnyH_ready (rs := [5]) (by kernel_rfl) (by simp) ?_
 refine (AllReadyH.cons (o := _) rfl (fun K hK => ?_) AllReadyH.nil)
 · as_aux_lemma => (
 refine step_alloc zb30 (fun _ => by kernel_rfl) _ (by kernel_rfl) 11 rfl ?_
 have hb4 := ab w3 zb30
 have hB4 := below_then hB3 hB3.size hb4
 have hz4 := az w3 zb30
 have z5 := kp hb4 z5
 have z6 := heap_alloc_new w3 zb30
 have hv1 := hv1.alloc zb30
 have hv2 := hv2.alloc zb30
 refine hK.out _ _ ⟨kp hb4 hHeld.1, kp hb4 hHeld.2⟩ (fun hHeld => ?_)
 clear hK K
 try dsimp only [Act.put]
 try simp only [Act.put, sI, s0, sS]
 generalize w3.alloc zb30 = w4 at *
 have hne : w1.heap.size ≠ w3.heap.size := by have := HSD.out; have := hz2.out; have := hz4.out; omega
 have hlow : Wd.heap.size ≤ w1.heap.size ∧ Wd.heap.size ≤ w3.heap.size := by have := HSD.out; have := hz2.out; have := hz4.out; have := hB4.size; omega
 refine wpAnyH_ready (rs := [6]) (by kernel_rfl) (by simp) ?_
 refine ar1 rfl (fun K hK => ?_)
 refine store_whole 30 (.tmp 10) (.tmp 78) rfl rfl 5 rfl rfl z5 ⟨rfl, rfl⟩ info30' rfl _ (by kernel_rfl) (fun u1 h31 h32 h33 h34 => ?_)
 have z6 := (h32 _ hne.symm).trans z6
 have hv1 := hv1.store (x := w1.heap.size) (by simp) h32 h34
 have hv2 := hv2.store (x := w1.heap.size) (by simp) h32 h34
 refine hK.out _ _ ⟨(h32 _ (by have := HL1.out; omega)).trans hHeld.1, (h32 _ (by have := HL1.out; omega)).trans hHeld.2⟩ (fun hHeld => ?_)
 clear hK K
 try dsimp only [Act.put]
 try simp only [Act.put, sI, s0, sS]
 refine wpAnyH_ready (rs := [7]) (by kernel_rfl) (by simp) ?_
 refine ar1 rfl (fun K hK => ?_)
 refine store_whole 30 (.tmp 11) (.tmp 80) rfl rfl 5 rfl rfl z6 ⟨rfl, rfl⟩ info30' rfl _ (by kernel_rfl) (fun u2 h41 h42 h43 h44 => ?_)
 have z5 := (h42 _ hne).trans h31
 have hv1 := hv1.store (x := w3.heap.size) (by simp) h42 h44
 have hv2 := hv2.store (x := w3.heap.size) (by simp) h42 h44
 refine hK.out _ _ ⟨(h42 _ (by have := HL1.out; omega)).trans hHeld.1, (h42 _ (by have := HL1.out; omega)).trans hHeld.2⟩ (fun hHeld => ?_)
 clear hK K
 refine wpAnyH_done (by kernel_rfl) ?_ _
 go_wp2_with fail
 go_meet
 exact ⟨_, _, P1, n1, q1, P2, n1, q2, rfl, rfl, z5, h41, hv1.conv, hv2.conv, below_then hWbd hWbd.size (h43 _ _ hlow.2 (h33 _ _ hlow.1 hB4))⟩))
 · as_aux_lemma => (
 refine step_alloc zb30 (fun _ => by kernel_rfl) _ (by kernel_rfl) 11 rfl ?_
 have hb3 := ab w2 zb30
 have hB3 := below_then hB2 hB2.size hb3
 have hz3 := az w2 zb30
 have z5 := kp hb3 z5
 have z6 := heap_alloc_new w2 zb30
 have hv1 := hv1.alloc zb30
 refine hK.out _ _ ⟨kp hb3 hHeld.1, kp hb3 hHeld.2⟩ (fun hHeld => ?_)
 clear hK K
 try dsimp only [Act.put]
 try simp only [Act.put, sI, s0, sS]
 generalize w2.alloc zb30 = w3 at *
 refine wpAnyH_ready (rs := [3]) (by kernel_rfl) (by simp) ?_
 refine (AllReadyH.cons (o := _) rfl (fun K hK => ?_) AllReadyH.nil)
 · as_aux_lemma => (
 go_simp
 refine (C10b.out w3 hB3 [w2.heap.size, w1.heap.size] (by simp only [List.mem_cons, List.not_mem_nil, or_false]; have := HSD.out; have := hz2.out; have := hz3.out; have := hB3.size; omega)).mono ?_
 rintro e w4 ⟨P2, q2, rfl, hv2, hb4⟩
 try dsimp only
 have hB4 := below_then hB3 hB3.size hb4
 have hz4 := hb4.size
 have z5 := kp hb4 z5
 have z6 := kp hb4 z6
 have hv1 := hv1.below hb4
 refine hK.out _ _ ⟨kp hb4 hHeld.1, kp hb4 hHeld.2⟩ (fun hHeld => ?_)
 clear hK K
 try dsimp only [Act.put]
 try simp only [Act.put, sI, s0, sS]
 have hne : w1.heap.size ≠ w2.heap.size := by have := HSD.out; have := hz2.out; have := hz3.out; omega
 have hlow : Wd.heap.size ≤ w1.heap.size ∧ Wd.heap.size ≤ w2.heap.size := by have := HSD.out; have := hz2.out; have := hz3.out; have := hB4.size; omega
 refine wpAnyH_ready (rs := [6]) (by kernel_rfl) (by simp) ?_
 refine ar1 rfl (fun K hK => ?_)
 refine store_whole 30 (.tmp 10) (.tmp 78) rfl rfl 5 rfl rfl z5 ⟨rfl, rfl⟩ info30' rfl _ (by kernel_rfl) (fun u1 h31 h32 h33 h34 => ?_)
 have z6 := (h32 _ hne.symm).trans z6
 have hv1 := hv1.store (x := w1.heap.size) (by simp) h32 h34
 have hv2 := hv2.store (x := w1.heap.size) (by simp) h32 h34
 refine hK.out _ _ ⟨(h32 _ (by have := HL1.out; omega)).trans hHeld.1, (h32 _ (by have := HL1.out; omega)).trans hHeld.2⟩ (fun hHeld => ?_)
 clear hK K
 try dsimp only [Act.put]
 try simp only [Act.put, sI, s0, sS]
 refine wpAnyH_ready (rs := [7]) (by kernel_rfl) (by simp) ?_
 refine ar1 rfl (fun K hK => ?_)
 refine store_whole 30 (.tmp 11) (.tmp 80) rfl rfl 5 rfl rfl z6 ⟨rfl, rfl⟩ info30' rfl _ (by kernel_rfl) (fun u2 h41 h42 h43 h44 => ?_)
 have z5 := (h42 _ hne).trans h31
 have hv1 := hv1.store (x := w2.heap.size) (by simp) h42 h44
 have hv2 := hv2.store (x := w2.heap.size) (by simp) h42 h44
 refine hK.out _ _ ⟨(h42 _ (by have := HL1.out; omega)).trans hHeld.1, (h42 _ (by have := HL1.out; omega)).trans hHeld.2⟩ (fun hHeld => ?_)
 clear hK K
 refine wpAnyH_done (by kernel_rfl) ?_ _
 go_wp2_with fail
 go_meet
 exact ⟨_, _, P1, n1, q1, P2, n1, q2, rfl, rfl, z5, h41, hv1.conv, hv2.conv, below_then hWbd hWbd.size (h43 _ _ hlow.2 (h33 _ _ hlow.1 hB4))⟩)))
 · as_aux_lemma => (
 refine step_alloc zb30 (fun _ => by kernel_rfl) _ (by kernel_rfl) 11 rfl ?_
 have hb2 := ab w1 zb30
 have hB2 := below_then hB1 hB1.size hb2
 have hz2 := az w1 zb30
 have z6 := heap_alloc_new w1 zb30
 have hv1 := hv1.alloc zb30
 refine hK.out _ _ ⟨kp hb2 hHeld.1, kp hb2 hHeld.2⟩ (fun hHeld => ?_)
 clear hK K
 try dsimp only [Act.put]
 try simp only [Act.put, sI, s0, sS]
 generalize w1.alloc zb30 = w2 at *
 refine wpAnyH_ready (rs := [3, 4]) (by kernel_rfl) (by simp) ?_
 refine (AllReadyH.cons (o := _) rfl (fun K hK => ?_) (AllReadyH.cons (o := _) rfl (fun K hK => ?_) AllReadyH.nil))
 · as_aux_lemma => (
 go_simp
 refine (C10b.out w2 hB2 [w1.heap.size] (by simp only [List.mem_cons, List.not_mem_nil, or_false]; have := HSD.out; have := hz2.out; have := hB2.size; omega)).mono ?_
 rintro e w3 ⟨P2, q2, rfl, hv2, hb3⟩
 try dsimp only
 have hB3 := below_then hB2 hB2.size hb3
 have hz3 := hb3.size
 have z6 := kp hb3 z6
 have hv1 := hv1.below hb3
 refine hK.out _ _ ⟨kp hb3 hHeld.1, kp hb3 hHeld.2⟩ (fun hHeld => ?_)
 clear hK K
 try dsimp only [Act.put]
 try simp only [Act.put, sI, s0, sS]
 refine wpAnyH_ready (rs := [4]) (by kernel_rfl) (by simp) ?_
 refine (AllReadyH.cons (o := _) rfl (fun K hK => ?_) AllReadyH.nil)
 · as_aux_lemma => (
 refine step_alloc zb30 (fun _ => by kernel_rfl) _ (by kernel_rfl) 10 rfl ?_
 have hb4 := ab w3 zb30
 have hB4 := below_then hB3 hB3.size hb4
 have hz4 := az w3 zb30
 have z6 := kp hb4 z6
 have z5 := heap_alloc_new w3 zb30
 have hv1 := hv1.alloc zb30
 have hv2 := hv2.alloc zb30
 refine hK.out _ _ ⟨kp hb4 hHeld.1, kp hb4 hHeld.2⟩ (fun hHeld => ?_)
 clear hK K
 try dsimp only [Act.put]
 try simp only [Act.put, sI, s0, sS]
 generalize w3.alloc zb30 = w4 at *
 have hne : w3.heap.size ≠ w1.heap.size := by have := HSD.out; have := hz2.out; have := hz4.out; omega
 have hlow : Wd.heap.size ≤ w3.heap.size ∧ Wd.heap.size ≤ w1.heap.size := by have := HSD.out; have := hz2.out; have := hz4.out; have := hB4.size; omega
 refine wpAnyH_ready (rs := [6]) (by kernel_rfl) (by simp) ?_
 refine ar1 rfl (fun K hK => ?_)
 refine store_whole 30 (.tmp 10) (.tmp 78) rfl rfl 5 rfl rfl z5 ⟨rfl, rfl⟩ info30' rfl _ (by kernel_rfl) (fun u1 h31 h32 h33 h34 => ?_)
 have z6 := (h32 _ hne.symm).trans z6
 have hv1 := hv1.store (x := w3.heap.size) (by simp) h32 h34
 have hv2 := hv2.store (x := w3.heap.size) (by simp) h32 h34
 refine hK.out _ _ ⟨(h32 _ (by have := HL1.out; omega)).trans hHeld.1, (h32 _ (by have := HL1.out; omega)).trans hHeld.2⟩ (fun hHeld => ?_)
 clear hK K
 try dsimp only [Act.put]
 try simp only [Act.put, sI, s0, sS]
 refine wpAnyH_ready (rs := [7]) (by kernel_rfl) (by simp) ?_
 refine ar1 rfl (fun K hK => ?_)
 refine store_whole 30 (.tmp 11) (.tmp 80) rfl rfl 5 rfl rfl z6 ⟨rfl, rfl⟩ info30' rfl _ (by kernel_rfl) (fun u2 h41 h42 h43 h44 => ?_)
 have z5 := (h42 _ hne).trans h31
 have hv1 := hv1.store (x := w1.heap.size) (by simp) h42 h44
 have hv2 := hv2.store (x := w1.heap.size) (by simp) h42 h44
 refine hK.out _ _ ⟨(h42 _ (by have := HL1.out; omega)).trans hHeld.1, (h42 _ (by have := HL1.out; omega)).trans hHeld.2⟩ (fun hHeld => ?_)
 clear hK K
 refine wpAnyH_done (by kernel_rfl) ?_ _
 go_wp2_with fail
 go_meet
 exact ⟨_, _, P1, n1, q1, P2, n1, q2, rfl, rfl, z5, h41, hv1.conv, hv2.conv, below_then hWbd hWbd.size (h43 _ _ hlow.2 (h33 _ _ hlow.1 hB4))⟩))
 · as_aux_lemma => (
 refine step_alloc zb30 (fun _ => by kernel_rfl) _ (by kernel_rfl) 10 rfl ?_
 have hb3 := ab w2 zb30
 have hB3 := below_then hB2 hB2.size hb3
 have hz3 := az w2 zb30
 have z6 := kp hb3 z6
 have z5 := heap_alloc_new w2 zb30
 have hv1 := hv1.alloc zb30
 refine hK.out _ _ ⟨kp hb3 hHeld.1, kp hb3 hHeld.2⟩ (fun hHeld => ?_)
 clear hK K
 try dsimp only [Act.put]
 try simp only [Act.put, sI, s0, sS]
 generalize w2.alloc zb30 = w3 at *
 refine wpAnyH_ready (rs := [3]) (by kernel_rfl) (by simp) ?_
 refine (AllReadyH.cons (o := _) rfl (fun K hK => ?_) AllReadyH.nil)
 · as_aux_lemma => (
 go_simp
 refine (C10b.out w3 hB3 [w2.heap.size, w1.heap.size] (by simp only [List.mem_cons, List.not_mem_nil, or_false]; have := HSD.out; have := hz2.out; have := hz3.out; have := hB3.size; omega)).mono ?_
 rintro e w4 ⟨P2, q2, rfl, hv2, hb4⟩
 try dsimp only
 have hB4 := below_then hB3 hB3.size hb4
 have hz4 := hb4.size
 have z5 := kp hb4 z5
 have z6 := kp hb4 z6
 have hv1 := hv1.below hb4
 refine hK.out _ _ ⟨kp hb4 hHeld.1, kp hb4 hHeld.2⟩ (fun hHeld => ?_)
 clear hK K
 try dsimp only [Act.put]
 try simp only [Act.put, sI, s0, sS]
 have hne : w2.heap.size ≠ w1.heap.size := by have := HSD.out; have := hz2.out; have := hz3.out; omega
 have hlow : Wd.heap.size ≤ w2.heap.size ∧ Wd.heap.size ≤ w1.heap.size := by have := HSD.out; have := hz2.out; have := hz3.out; have := hB4.size; omega
 refine wpAnyH_ready (rs := [6]) (by kernel_rfl) (by simp) ?_
 refine ar1 rfl (fun K hK => ?_)
 refine store_whole 30 (.tmp 10) (.tmp 78) rfl rfl 5 rfl rfl z5 ⟨rfl, rfl⟩ info30' rfl _ (by kernel_rfl) (fun u1 h31 h32 h33 h34 => ?_)
 have z6 := (h32 _ hne.symm).trans z6
 have hv1 := hv1.store (x := w2.heap.size) (by simp) h32 h34
 have hv2 := hv2.store (x := w2.heap.size) (by simp) h32 h34
 refine hK.out _ _ ⟨(h32 _ (by have := HL1.out; omega)).trans hHeld.1, (h32 _ (by have := HL1.out; omega)).trans hHeld.2⟩ (fun hHeld => ?_)
 clear hK K
 try dsimp only [Act.put]
 try simp only [Act.put, sI, s0, sS]
 refine wpAnyH_ready (rs := [7]) (by kernel_rfl) (by simp) ?_
 refine ar1 rfl (fun K hK => ?_)
 refine store_whole 30 (.tmp 11) (.tmp 80) rfl rfl 5 rfl rfl z6 ⟨rfl, rfl⟩ info30' rfl _ (by kernel_rfl) (fun u2 h41 h42 h43 h44 => ?_)
 have z5 := (h42 _ hne).trans h31
 have hv1 := hv1.store (x := w1.heap.size) (by simp) h42 h44
 have hv2 := hv2.store (x := w1.heap.size) (by simp) h42 h44
 refine hK.out _ _ ⟨(h42 _ (by have := HL1.out; omega)).trans hHeld.1, (h42 _ (by have := HL1.out; omega)).trans hHeld.2⟩ (fun hHeld => ?_)
 clear hK K
 refine wpAnyH_done (by kernel_rfl) ?_ _
 go_wp2_with fail
 go_meet
 exact ⟨_, _, P1, n1, q1, P2, n1, q2, rfl, rfl, z5, h41, hv1.conv, hv2.conv, below_then hWbd hWbd.size (h43 _ _ hlow.2 (h33 _ _ hlow.1 hB4))⟩))))
 · as_aux_lemma => (
 refine step_alloc zb30 (fun _ => by kernel_rfl) _ (by kernel_rfl) 10 rfl ?_
 have hb1 := ab Wd zb30
 have hB1 := below_then hBd hBd.size hb1
 have hz1 := az Wd zb30
 have z5 := heap_alloc_new Wd zb30
 refine hK.out _ _ ⟨kp hb1 hHeld.1, kp hb1 hHeld.2⟩ (fun hHeld => ?_)
 clear hK K
 try dsimp only [Act.put]
 try simp only [Act.put, sI, s0, sS]
 generalize Wd.alloc zb30 = w1 at *
 refine wpAnyH_ready (rs := [1, 5]) (by kernel_rfl) (by simp) ?_
 refine (AllReadyH.cons (o := _) rfl (fun K hK => ?_) (AllReadyH.cons (o := _) rfl (fun K hK => ?_) AllReadyH.nil))
 · as_aux_lemma => (
 go_simp
 refine (C10a.out w1 hB1 [Wd.heap.size] (by simp only [List.mem_cons, List.not_mem_nil, or_false]; have := HSD.out; have := hz1.out; have := hB1.size; omega)).mono ?_
 rintro e w2 ⟨P1, q1, rfl, hv1, hb2⟩
 try dsimp only
 have hB2 := below_then hB1 hB1.size hb2
 have hz2 := hb2.size
 have z5 := kp hb2 z5
 refine hK.out _ _ ⟨kp hb2 hHeld.1, kp hb2 hHeld.2⟩ (fun hHeld => ?_)
 clear hK K
 try dsimp only [Act.put]
 try simp only [Act.put, sI, s0, sS]
 refine wpAnyH_ready (rs := [3, 5]) (by kernel_rfl) (by simp) ?_
 refine (AllReadyH.cons (o := _) rfl (fun K hK => ?_) (AllReadyH.cons (o := _) rfl (fun K hK => ?_) AllReadyH.nil))
 · as_aux_lemma => (
 go_simp
 refine (C10b.out w2 hB2 [Wd.heap.size] (by simp only [List.mem_cons, List.not_mem_nil, or_false]; have := HSD.out; have := hz1.out; have := hB2.size; omega)).mono ?_
 rintro e w3 ⟨P2, q2, rfl, hv2, hb3⟩
 try dsimp only
 have hB3 := below_then hB2 hB2.size hb3
 have hz3 := hb3.size
 have z5 := kp hb3 z5
 have hv1 := hv1.below hb3
 refine hK.out _ _ ⟨kp hb3 hHeld.1, kp hb3 hHeld.2⟩ (fun hHeld => ?_)
 clear hK K
 try dsimp only [Act.put]
 try simp only [Act.put, sI, s0, sS]
 refine wpAnyH_ready (rs := [5]) (by kernel_rfl) (by simp) ?_
 refine (AllReadyH.cons (o := _) rfl (fun K hK => ?_) AllReadyH.nil)
 · as_aux_lemma => (
 refine step_alloc zb30 (fun _ => by kernel_rfl) _ (by kernel_rfl) 11 rfl ?_
 have hb4 := ab w3 zb30
 have hB4 := below_then hB3 hB3.size hb4
 have hz4 := az w3 zb30
 have z5 := kp hb4 z5
 have z6 := heap_alloc_new w3 zb30
 have hv1 := hv1.alloc zb30
 have hv2 := hv2.alloc zb30
 refine hK.out _ _ ⟨kp hb4 hHeld.1, kp hb4 hHeld.2⟩ (fun hHeld => ?_)
 clear hK K
 try dsimp only [Act.put]
 try simp only [Act.put, sI, s0, sS]
 generalize w3.alloc zb30 = w4 at *
 have hne : Wd.heap.size ≠ w3.heap.size := by have := HSD.out; have := hz1.out; have := hz4.out; omega
 have hlow : Wd.heap.size ≤ Wd.heap.size ∧ Wd.heap.size ≤ w3.heap.size := by have := HSD.out; have := hz1.out; have := hz4.out; have := hB4.size; omega
 refine wpAnyH_ready (rs := [6]) (by kernel_rfl) (by simp) ?_
 refine ar1 rfl (fun K hK => ?_)
 refine store_whole 30 (.tmp 10) (.tmp 78) rfl rfl 5 rfl rfl z5 ⟨rfl, rfl⟩ info30' rfl _ (by kernel_rfl) (fun u1 h31 h32 h33 h34 => ?_)
 have z6 := (h32 _ hne.symm).trans z6
 have hv1 := hv1.store (x := Wd.heap.size) (by simp) h32 h34
 have hv2 := hv2.store (x := Wd.heap.size) (by simp) h32 h34
 refine hK.out _ _ ⟨(h32 _ (by have := HL1.out; omega)).trans hHeld.1, (h32 _ (by have := HL1.out; omega)).trans hHeld.2⟩ (fun hHeld => ?_)
 clear hK K
 try dsimp only [Act.put]
 try simp only [Act.put, sI, s0, sS]
 refine wpAnyH_ready (rs := [7]) (by kernel_rfl) (by simp) ?_
 refine ar1 rfl (fun K hK => ?_)
 refine store_whole 30 (.tmp 11) (.tmp 80) rfl rfl 5 rfl rfl z6 ⟨rfl, rfl⟩ info30' rfl _ (by kernel_rfl) (fun u2 h41 h42 h43 h44 => ?_)
 have z5 := (h42 _ hne).trans h31
 have hv1 := hv1.store (x := w3.heap.size) (by simp) h42 h44
 have hv2 := hv2.store (x := w3.heap.size) (by simp) h42 h44
 refine hK.out _ _ ⟨(h42 _ (by have := HL1.out; omega)).trans hHeld.1, (h42 _ (by have := HL1.out; omega)).trans hHeld.2⟩ (fun hHeld => ?_)
 clear hK K
 refine wpAnyH_done (by kernel_rfl) ?_ _
 go_wp2_with fail
 go_meet
 exact ⟨_, _, P1, n1, q1, P2, n1, q2, rfl, rfl, z5, h41, hv1.conv, hv2.conv, below_then hWbd hWbd.size (h43 _ _ hlow.2 (h33 _ _ hlow.1 hB4))⟩))
 · as_aux_lemma => (
 refine step_alloc zb30 (fun _ => by kernel_rfl) _ (by kernel_rfl) 11 rfl ?_
 have hb3 := ab w2 zb30
 have hB3 := below_then hB2 hB2.size hb3
 have hz3 := az w2 zb30
 have z5 := kp hb3 z5
 have z6 := heap_alloc_new w2 zb30
 have hv1 := hv1.alloc zb30
 refine hK.out _ _ ⟨kp hb3 hHeld.1, kp hb3 hHeld.2⟩ (fun hHeld => ?_)
 clear hK K
 try dsimp only [Act.put]
 try simp only [Act.put, sI, s0, sS]
 generalize w2.alloc zb30 = w3 at *
 refine wpAnyH_ready (rs := [3]) (by kernel_rfl) (by simp) ?_
 refine (AllReadyH.cons (o := _) rfl (fun K hK => ?_) AllReadyH.nil)
 · as_aux_lemma => (
 go_simp
 refine (C10b.out w3 hB3 [w2.heap.size, Wd.heap.size] (by simp only [List.mem_cons, List.not_mem_nil, or_false]; have := HSD.out; have := hz1.out; have := hz3.out; have := hB3.size; omega)).mono ?_
 rintro e w4 ⟨P2, q2, rfl, hv2, hb4⟩
 try dsimp only
 have hB4 := below_then hB3 hB3.size hb4
 have hz4 := hb4.size
 have z5 := kp hb4 z5
 have z6 := kp hb4 z6
 have hv1 := hv1.below hb4
 refine hK.out _ _ ⟨kp hb4 hHeld.1, kp hb4 hHeld.2⟩ (fun hHeld => ?_)
 clear hK K
 try dsimp only [Act.put]
 try simp only [Act.put, sI, s0, sS]
 have hne : Wd.heap.size ≠ w2.heap.size := by have := HSD.out; have := hz1.out; have := hz3.out; omega
 have hlow : Wd.heap.size ≤ Wd.heap.size ∧ Wd.heap.size ≤ w2.heap.size := by have := HSD.out; have := hz1.out; have := hz3.out; have := hB4.size; omega
 refine wpAnyH_ready (rs := [6]) (by kernel_rfl) (by simp) ?_
 refine ar1 rfl (fun K hK => ?_)
 refine store_whole 30 (.tmp 10) (.tmp 78) rfl rfl 5 rfl rfl z5 ⟨rfl, rfl⟩ info30' rfl _ (by kernel_rfl) (fun u1 h31 h32 h33 h34 => ?_)
 have z6 := (h32 _ hne.symm).trans z6
 have hv1 := hv1.store (x := Wd.heap.size) (by simp) h32 h34
 have hv2 := hv2.store (x := Wd.heap.size) (by simp) h32 h34
 refine hK.out _ _ ⟨(h32 _ (by have := HL1.out; omega)).trans hHeld.1, (h32 _ (by have := HL1.out; omega)).trans hHeld.2⟩ (fun hHeld => ?_)
 clear hK K
 try dsimp only [Act.put]
 try simp only [Act.put, sI, s0, sS]
 refine wpAnyH_ready (rs := [7]) (by kernel_rfl) (by simp) ?_
 refine ar1 rfl (fun K hK => ?_)
 refine store_whole 30 (.tmp 11) (.tmp 80) rfl rfl 5 rfl rfl z6 ⟨rfl, rfl⟩ info30' rfl _ (by kernel_rfl) (fun u2 h41 h42 h43 h44 => ?_)
 have z5 := (h42 _ hne).trans h31
 have hv1 := hv1.store (x := w2.heap.size) (by simp) h42 h44
 have hv2 := hv2.store (x := w2.heap.size) (by simp) h42 h44
 refine hK.out _ _ ⟨(h42 _ (by have := HL1.out; omega)).trans hHeld.1, (h42 _ (by have := HL1.out; omega)).trans hHeld.2⟩ (fun hHeld => ?_)
 clear hK K
 refine wpAnyH_done (by kernel_rfl) ?_ _
 go_wp2_with fail
 go_meet
 exact ⟨_, _, P1, n1, q1, P2, n1, q2, rfl, rfl, z5, h41, hv1.conv, hv2.conv, below_then hWbd hWbd.size (h43 _ _ hlow.2 (h33 _ _ hlow.1 hB4))⟩)))
 · as_aux_lemma => (
 refine step_alloc zb30 (fun _ => by kernel_rfl) _ (by kernel_rfl) 11 rfl ?_
 have hb2 := ab w1 zb30
 have hB2 := below_then hB1 hB1.size hb2
 have hz2 := az w1 zb30
 have z5 := kp hb2 z5
 have z6 := heap_alloc_new w1 zb30
 refine hK.out _ _ ⟨kp hb2 hHeld.1, kp hb2 hHeld.2⟩ (fun hHeld => ?_)
 clear hK K
 try dsimp only [Act.put]
 try simp only [Act.put, sI, s0, sS]
 generalize w1.alloc zb30 = w2 at *
 refine wpAnyH_ready (rs := [1]) (by kernel_rfl) (by simp) ?_
 refine (AllReadyH.cons (o := _) rfl (fun K hK => ?_) AllReadyH.nil)
 · as_aux_lemma => (
 go_simp
 refine (C10a.out w2 hB2 [w1.heap.size, Wd.heap.size] (by simp only [List.mem_cons, List.not_mem_nil, or_false]; have := HSD.out; have := hz1.out; have := hz2.out; have := hB2.size; omega)).mono ?_
 rintro e w3 ⟨P1, q1, rfl, hv1, hb3⟩
 try dsimp only
 have hB3 := below_then hB2 hB2.size hb3
 have hz3 := hb3.size
 have z5 := kp hb3 z5
 have z6 := kp hb3 z6
 refine hK.out _ _ ⟨kp hb3 hHeld.1, kp hb3 hHeld.2⟩ (fun hHeld => ?_)
 clear hK K
 try dsimp only [Act.put]
 try simp only [Act.put, sI, s0, sS]
 refine wpAnyH_ready (rs := [3]) (by kernel_rfl) (by simp) ?_
 refine (AllReadyH.cons (o := _) rfl (fun K hK => ?_) AllReadyH.nil)
 · as_aux_lemma => (
 go_simp
 refine (C10b.out w3 hB3 [w1.heap.size, Wd.heap.size] (by simp only [List.mem_cons, List.not_mem_nil, or_false]; have := HSD.out; have := hz1.out; have := hz2.out; have := hB3.size; omega)).mono ?_
 rintro e w4 ⟨P2, q2, rfl, hv2, hb4⟩
 try dsimp only
 have hB4 := below_then hB3 hB3.size hb4
 have hz4 := hb4.size
 have z5 := kp hb4 z5
 have z6 := kp hb4 z6
 have hv1 := hv1.below hb4
 refine hK.out _ _ ⟨kp hb4 hHeld.1, kp hb4 hHeld.2⟩ (fun hHeld => ?_)
 clear hK K
 try dsimp only [Act.put]
 try simp only [Act.put, sI, s0, sS]
 have hne : Wd.heap.size ≠ w1.heap.size := by have := HSD.out; have := hz1.out; have := hz2.out; omega
 have hlow : Wd.heap.size ≤ Wd.heap.size ∧ Wd.heap.size ≤ w1.heap.size := by have := HSD.out; have := hz1.out; have := hz2.out; have := hB4.size; omega
 refine wpAnyH_ready (rs := [6]) (by kernel_rfl) (by simp) ?_
 refine ar1 rfl (fun K hK => ?_)
 refine store_whole 30 (.tmp 10) (.tmp 78) rfl rfl 5 rfl rfl z5 ⟨rfl, rfl⟩ info30' rfl _ (by kernel_rfl) (fun u1 h31 h32 h33 h34 => ?_)
 have z6 := (h32 _ hne.symm).trans z6
 have hv1 := hv1.store (x := Wd.heap.size) (by simp) h32 h34
 have hv2 := hv2.store (x := Wd.heap.size) (by simp) h32 h34
 refine hK.out _ _ ⟨(h32 _ (by have := HL1.out; omega)).trans hHeld.1, (h32 _ (by have := HL1.out; omega)).trans hHeld.2⟩ (fun hHeld => ?_)
 clear hK K
 try dsimp only [Act.put]
 try simp only [Act.put, sI, s0, sS]
 refine wpAnyH_ready (rs := [7]) (by kernel_rfl) (by simp) ?_
 refine ar1 rfl (fun K hK => ?_)
 refine store_whole 30 (.tmp 11) (.tmp 80) rfl rfl 5 rfl rfl z6 ⟨rfl, rfl⟩ info30' rfl _ (by kernel_rfl) (fun u2 h41 h42 h43 h44 => ?_)
 have z5 := (h42 _ hne).trans h31
 have hv1 := hv1.store (x := w1.heap.size) (by simp) h42 h44
 have hv2 := hv2.store (x := w1.heap.size) (by simp) h42 h44
 refine hK.out _ _ ⟨(h42 _ (by have := HL1.out; omega)).trans hHeld.1, (h42 _ (by have := HL1.out; omega)).trans hHeld.2⟩ (fun hHeld => ?_)
 clear hK K
 refine wpAnyH_done (by kernel_rfl) ?_ _
 go_wp2_with fail
 go_meet
 exact ⟨_, _, P1, n1, q1, P2, n1, q2, rfl, rfl, z5, h41, hv1.conv, hv2.conv, below_then hWbd hWbd.size (h43 _ _ hlow.2 (h33 _ _ hlow.1 hB4))⟩))))
 · as_aux_lemma => (
 refine step_alloc zb30 (fun _ => by kernel_rfl) _ (by kernel_rfl) 11 rfl ?_
 have hb1 := ab Wd zb30
 have hB1 := below_then hBd hBd.size hb1
 have hz1 := az Wd zb30
 have z6 := heap_alloc_new Wd zb30
 refine hK.out _ _ ⟨kp hb1 hHeld.1, kp hb1 hHeld.2⟩ (fun hHeld => ?_)
 clear hK K
 try dsimp only [Act.put]
 try simp only [Act.put, sI, s0, sS]
 generalize Wd.alloc zb30 = w1 at *
 refine wpAnyH_ready (rs := [1, 4]) (by kernel_rfl) (by simp) ?_
 refine (AllReadyH.cons (o := _) rfl (fun K hK => ?_) (AllReadyH.cons (o := _) rfl (fun K hK => ?_) AllReadyH.nil))
 · as_aux_lemma => (
 go_simp
 refine (C10a.out w1 hB1 [Wd.heap.size] (by simp only [List.mem_cons, List.not_mem_nil, or_false]; have := HSD.out; have := hz1.out; have := hB1.size; omega)).mono ?_
 rintro e w2 ⟨P1, q1, rfl, hv1, hb2⟩
 try dsimp only
 have hB2 := below_then hB1 hB1.size hb2
 have hz2 := hb2.size
 have z6 := kp hb2 z6
 refine hK.out _ _ ⟨kp hb2 hHeld.1, kp hb2 hHeld.2⟩ (fun hHeld => ?_)
 clear hK K
 try dsimp only [Act.put]
 try simp only [Act.put, sI, s0, sS]
 refine wpAnyH_ready (rs := [3, 4]) (by kernel_rfl) (by simp) ?_
 refine (AllReadyH.cons (o := _) rfl (fun K hK => ?_) (AllReadyH.cons (o := _) rfl (fun K hK => ?_) AllReadyH.nil))
 · as_aux_lemma => (
 go_simp
 refine (C10b.out w2 hB2 [Wd.heap.size] (by simp only [List.mem_cons, List.not_mem_nil, or_false]; have := HSD.out; have := hz1.out; have := hB2.size; omega)).mono ?_
 rintro e w3 ⟨P2, q2, rfl, hv2, hb3⟩
 try dsimp only
 have hB3 := below_then hB2 hB2.size hb3
 have hz3 := hb3.size
 have z6 := kp hb3 z6
 have hv1 := hv1.below hb3
 refine hK.out _ _ ⟨kp hb3 hHeld.1, kp hb3 hHeld.2⟩ (fun hHeld => ?_)
 clear hK K
 try dsimp only [Act.put]
 try simp only [Act.put, sI, s0, sS]
 refine wpAnyH_ready (rs := [4]) (by kernel_rfl) (by simp) ?_
 refine (AllReadyH.cons (o := _) rfl (fun K hK => ?_) AllReadyH.nil)
 · as_aux_lemma => (
 refine step_alloc zb30 (fun _ => by kernel_rfl) _ (by kernel_rfl) 10 rfl ?_
 have hb4 := ab w3 zb30
 have hB4 := below_then hB3 hB3.size hb4
 have hz4 := az w3 zb30
 have z6 := kp hb4 z6
 have z5 := heap_alloc_new w3 zb30
 have hv1 := hv1.alloc zb30
 have hv2 := hv2.alloc zb30
 refine hK.out _ _ ⟨kp hb4 hHeld.1, kp hb4 hHeld.2⟩ (fun hHeld => ?_)
 clear hK K
 try dsimp only [Act.put]
 try simp only [Act.put, sI, s0, sS]
 generalize w3.alloc zb30 = w4 at *
 have hne : w3.heap.size ≠ Wd.heap.size := by have := HSD.out; have := hz1.out; have := hz4.out; omega
 have hlow : Wd.heap.size ≤ w3.heap.size ∧ Wd.heap.size ≤ Wd.heap.size := by have := HSD.out; have := hz1.out; have := hz4.out; have := hB4.size; omega
 refine wpAnyH_ready (rs := [6]) (by kernel_rfl) (by simp) ?_
 refine ar1 rfl (fun K hK => ?_)
 refine store_whole 30 (.tmp 10) (.tmp 78) rfl rfl 5 rfl rfl z5 ⟨rfl, rfl⟩ info30' rfl _ (by kernel_rfl) (fun u1 h31 h32 h33 h34 => ?_)
 have z6 := (h32 _ hne.symm).trans z6
 have hv1 := hv1.store (x := w3.heap.size) (by simp) h32 h34
 have hv2 := hv2.store (x := w3.heap.size) (by simp) h32 h34
 refine hK.out _ _ ⟨(h32 _ (by have := HL1.out; omega)).trans hHeld.1, (h32 _ (by have := HL1.out; omega)).trans hHeld.2⟩ (fun hHeld => ?_)
 clear hK K
 try dsimp only [Act.put]
 try simp only [Act.put, sI, s0, sS]
 refine wpAnyH_ready (rs := [7]) (by kernel_rfl) (by simp) ?_
 refine ar1 rfl (fun K hK => ?_)
 refine store_whole 30 (.tmp 11) (.tmp 80) rfl rfl 5 rfl rfl z6 ⟨rfl, rfl⟩ info30' rfl _ (by kernel_rfl) (fun u2 h41 h42 h43 h44 => ?_)
 have z5 := (h42 _ hne).trans h31
 have hv1 := hv1.store (x := Wd.heap.size) (by simp) h42 h44
 have hv2 := hv2.store (x := Wd.heap.size) (by simp) h42 h44
 refine hK.out _ _ ⟨(h42 _ (by have := HL1.out; omega)).trans hHeld.1, (h42 _ (by have := HL1.out; omega)).trans hHeld.2⟩ (fun hHeld => ?_)
 clear hK K
 refine wpAnyH_done (by kernel_rfl) ?_ _
 go_wp2_with fail
 go_meet
 exact ⟨_, _, P1, n1, q1, P2, n1, q2, rfl, rfl, z5, h41, hv1.conv, hv2.conv, below_then hWbd hWbd.size (h43 _ _ hlow.2 (h33 _ _ hlow.1 hB4))⟩))
 · as_aux_lemma => (
 refine step_alloc zb30 (fun _ => by kernel_rfl) _ (by kernel_rfl) 10 rfl ?_
 have hb3 := ab w2 zb30
 have hB3 := below_then hB2 hB2.size hb3
 have hz3 := az w2 zb30
 have z6 := kp hb3 z6
 have z5 := heap_alloc_new w2 zb30
 have hv1 := hv1.alloc zb30
 refine hK.out _ _ ⟨kp hb3 hHeld.1, kp hb3 hHeld.2⟩ (fun hHeld => ?_)
 clear hK K
 try dsimp only [Act.put]
 try simp only [Act.put, sI, s0, sS]
 generalize w2.alloc zb30 = w3 at *
 refine wpAnyH_ready (rs := [3]) (by kernel_rfl) (by simp) ?_
 refine (AllReadyH.cons (o := _) rfl (fun K hK => ?_) AllReadyH.nil)
 · as_aux_lemma => (
 go_simp
 refine (C10b.out w3 hB3 [w2.heap.size, Wd.heap.size] (by simp only [List.mem_cons, List.not_mem_nil, or_false]; have := HSD.out; have := hz1.out; have := hz3.out; have := hB3.size; omega)).mono ?_
 rintro e w4 ⟨P2, q2, rfl, hv2, hb4⟩
 try dsimp only
 have hB4 := below_then hB3 hB3.size hb4
 have hz4 := hb4.size
 have z5 := kp hb4 z5
 have z6 := kp hb4 z6
 have hv1 := hv1.below hb4
 refine hK.out _ _ ⟨kp hb4 hHeld.1, kp hb4 hHeld.2⟩ (fun hHeld => ?_)
 clear hK K
 try dsimp only [Act.put]
 try simp only [Act.put, sI, s0, sS]
 have hne : w2.heap.size ≠ Wd.heap.size := by have := HSD.out; have := hz1.out; have := hz3.out; omega
 have hlow : Wd.heap.size ≤ w2.heap.size ∧ Wd.heap.size ≤ Wd.heap.size := by have := HSD.out; have := hz1.out; have := hz3.out; have := hB4.size; omega
 refine wpAnyH_ready (rs := [6]) (by kernel_rfl) (by simp) ?_
 refine ar1 rfl (fun K hK => ?_)
 refine store_whole 30 (.tmp 10) (.tmp 78) rfl rfl 5 rfl rfl z5 ⟨rfl, rfl⟩ info30' rfl _ (by kernel_rfl) (fun u1 h31 h32 h33 h34 => ?_)
 have z6 := (h32 _ hne.symm).trans z6
 have hv1 := hv1.store (x := w2.heap.size) (by simp) h32 h34
 have hv2 := hv2.store (x := w2.heap.size) (by simp) h32 h34
 refine hK.out _ _ ⟨(h32 _ (by have := HL1.out; omega)).trans hHeld.1, (h32 _ (by have := HL1.out; omega)).trans hHeld.2⟩ (fun hHeld => ?_)
 clear hK K
 try dsimp only [Act.put]
 try simp only [Act.put, sI, s0, sS]
 refine wpAnyH_ready (rs := [7]) (by kernel_rfl) (by simp) ?_
 refine ar1 rfl (fun K hK => ?_)
 refine store_whole 30 (.tmp 11) (.tmp 80) rfl rfl 5 rfl rfl z6 ⟨rfl, rfl⟩ info30' rfl _ (by kernel_rfl) (fun u2 h41 h42 h43 h44 => ?_)
 have z5 := (h42 _ hne).trans h31
 have hv1 := hv1.store (x := Wd.heap.size) (by simp) h42 h44
 have hv2 := hv2.store (x := Wd.heap.size) (by simp) h42 h44
 refine hK.out _ _ ⟨(h42 _ (by have := HL1.out; omega)).trans hHeld.1, (h42 _ (by have := HL1.out; omega)).trans hHeld.2⟩ (fun hHeld => ?_)
 clear hK K
 refine wpAnyH_done (by kernel_rfl) ?_ _
 go_wp2_with fail
 go_meet
 exact ⟨_, _, P1, n1, q1, P2, n1, q2, rfl, rfl, z5, h41, hv1.conv, hv2.conv, below_then hWbd hWbd.size (h43 _ _ hlow.2 (h33 _ _ hlow.1 hB4))⟩)))
 · as_aux_lemma => (
 refine step_alloc zb30 (fun _ => by kernel_rfl) _ (by kernel_rfl) 10 rfl ?_
 have hb2 := ab w1 zb30
 have hB2 := below_then hB1 hB1.size hb2
 have hz2 := az w1 zb30
 have z6 := kp hb2 z6
 have z5 := heap_alloc_new w1 zb30
 refine hK.out _ _ ⟨kp hb2 hHeld.1, kp hb2 hHeld.2⟩ (fun hHeld => ?_)
 clear hK K
 try dsimp only [Act.put]
 try simp only [Act.put, sI, s0, sS]
 generalize w1.alloc zb30 = w2 at *
 refine wpAnyH_ready (rs := [1]) (by kernel_rfl) (by simp) ?_
 refine (AllReadyH.cons (o := _) rfl (fun K hK => ?_) AllReadyH.nil)
 · as_aux_lemma => (
 go_simp
 refine (C10a.out w2 hB2 [w1.heap.size, Wd.heap.size] (by simp only [List.mem_cons, List.not_mem_nil, or_false]; have := HSD.out; have := hz1.out; have := hz2.out; have := hB2.size; omega)).mono ?_
 rintro e w3 ⟨P1, q1, rfl, hv1, hb3⟩
 try dsimp only
 have hB3 := below_then hB2 hB2.size hb3
 have hz3 := hb3.size
 have z5 := kp hb3 z5
 have z6 := kp hb3 z6
 refine hK.out _ _ ⟨kp hb3 hHeld.1, kp hb3 hHeld.2⟩ (fun hHeld => ?_)
 clear hK K
 try dsimp only [Act.put]
 try simp only [Act.put, sI, s0, sS]
 refine wpAnyH_ready (rs := [3]) (by kernel_rfl) (by simp) ?_
 refine (AllReadyH.cons (o := _) rfl (fun K hK => ?_) AllReadyH.nil)
 · as_aux_lemma => (
 go_simp
 refine (C10b.out w3 hB3 [w1.heap.size, Wd.heap.size] (by simp only [List.mem_cons, List.not_mem_nil, or_false]; have := HSD.out; have := hz1.out; have := hz2.out; have := hB3.size; omega)).mono ?_
 rintro e w4 ⟨P2, q2, rfl, hv2, hb4⟩
 try dsimp only
 have hB4 := below_then hB3 hB3.size hb4
 have hz4 := hb4.size
 have z5 := kp hb4 z5
 have z6 := kp hb4 z6
 have hv1 := hv1.below hb4
 refine hK.out _ _ ⟨kp hb4 hHeld.1, kp hb4 hHeld.2⟩ (fun hHeld => ?_)
 clear hK K
 try dsimp only [Act.put]
 try simp only [Act.put, sI, s0, sS]
 have hne : w1.heap.size ≠ Wd.heap.size := by have := HSD.out; have := hz1.out; have := hz2.out; omega
 have hlow : Wd.heap.size ≤ w1.heap.size ∧ Wd.heap.size ≤ Wd.heap.size := by have := HSD.out; have := hz1.out; have := hz2.out; have := hB4.size; omega
 refine wpAnyH_ready (rs := [6]) (by kernel_rfl) (by simp) ?_
 refine ar1 rfl (fun K hK => ?_)
 refine store_whole 30 (.tmp 10) (.tmp 78) rfl rfl 5 rfl rfl z5 ⟨rfl, rfl⟩ info30' rfl _ (by kernel_rfl) (fun u1 h31 h32 h33 h34 => ?_)
 have z6 := (h32 _ hne.symm).trans z6
 have hv1 := hv1.store (x := w1.heap.size) (by simp) h32 h34
 have hv2 := hv2.store (x := w1.heap.size) (by simp) h32 h34
 refine hK.out _ _ ⟨(h32 _ (by have := HL1.out; omega)).trans hHeld.1, (h32 _ (by have := HL1.out; omega)).trans hHeld.2⟩ (fun hHeld => ?_)
 clear hK K
 try dsimp only [Act.put]
 try simp only [Act.put, sI, s0, sS]
 refine wpAnyH_ready (rs := [7]) (by kernel_rfl) (by simp) ?_
 refine ar1 rfl (fun K hK => ?_)
 refine store_whole 30 (.tmp 11) (.tmp 80) rfl rfl 5 rfl rfl z6 ⟨rfl, rfl⟩ info30' rfl _ (by kernel_rfl) (fun u2 h41 h42 h43 h44 => ?_)
 have z5 := (h42 _ hne).trans h31
 have hv1 := hv1.store (x := Wd.heap.size) (by simp) h42 h44
 have hv2 := hv2.store (x := Wd.heap.size) (by simp) h42 h44
 refine hK.out _ _ ⟨(h42 _ (by have := HL1.out; omega)).trans hHeld.1, (h42 _ (by have := HL1.out; omega)).trans hHeld.2⟩ (fun hHeld => ?_)
 clear hK K
 refine wpAnyH_done (by kernel_rfl) ?_ _
 go_wp2_with fail
 go_meet
 exact ⟨_, _, P1, n1, q1, P2, n1, q2, rfl, rfl, z5, h41, hv1.conv, hv2.conv, below_then hWbd hWbd.size (h43 _ _ hlow.2 (h33 _ _ hlow.1 hB4))⟩))))))
 case rest => (
 obtain ⟨x5, x6, P1, m1, q1, P2, m2, q2, rfl, rfl, z5, z6, v1, v2, hbr⟩ := hcut
 obtain ⟨Wr, rfl⟩ : ∃ W : World, W = wc := ⟨_, rfl⟩
 have hbR := below_then HBO.out HBO.out.size hbr
 have e0 : Wr.cell? ⟨x5, 0, none⟩ = some (.int .u8 a.kind) := blk_cell z5 0 _ rfl
 have e1 : Wr.cell? ⟨x5, 1, none⟩ = some (.bool a.float) := blk_cell z5 1 _ rfl
 have e2 : Wr.cell? ⟨x5, 2, none⟩ = some (.bool a.delta) := blk_cell z5 2 _ rfl
 have e3 : Wr.cell? ⟨x5, 3, none⟩ = some (.bool a.mono) := blk_cell z5 3 _ rfl
 have e4 : Wr.cell? ⟨x5, 4, none⟩ = some (.slice P1 m1 q1) := blk_cell z5 4 _ rfl
 have g0 : Wr.cell? ⟨x6, 0, none⟩ = some (.int .u8 b.kind) := blk_cell z6 0 _ rfl
 have g1 : Wr.cell? ⟨x6, 1, none⟩ = some (.bool b.float) := blk_cell z6 1 _ rfl
 have g2 : Wr.cell? ⟨x6, 2, none⟩ = some (.bool b.delta) := blk_cell z6 2 _ rfl
 have g3 : Wr.cell? ⟨x6, 3, none⟩ = some (.bool b.mono) := blk_cell z6 3 _ rfl
 have g4 : Wr.cell? ⟨x6, 4, none⟩ = some (.slice P2 m2 q2) := blk_cell z6 4 _ rfl
 have C11a := C11.out false false b HTU.out HOB.out Wr hbR ra _ _ _ _ _ _ v1 v2
 have C11b := fun (W : World) (hW : Below Wr.heap.size Wr W) => C11r.out false false b HTU.out HOB.out W (below_then hbR hbR.size hW) ra _ _ _ _ _ _ (v1.below hW) (v2.below hW)
 have C11t := fun (W : World) (hW : Below Wr.heap.size Wr W) => C11.out true true b HTU.out HOB.out W (below_then hbR hbR.size hW) ra _ _ _ _ _ _ (v1.below hW) (v2.below hW)
 rw [HTU.out.same ra] at C11a C11t
 rw [HTU.out.same' ra] at C11b
 have HC11a := Lib.hid C11a
 have HC11b := Lib.hid C11b
 have HC11t := Lib.hid C11t
 have HBR := Lib.hid hbR
 clear z5 z6 v1 v2 hbr C11a C11b C11t hbR zA zB hWd hWbd hWd0 C10a C10b HSD
 as_aux_lemma => (
 go_wp2_with (first
  | (go_at_call 11; (with_reducible refine HC11a.out.mono ?_); rintro e w1 ⟨rfl, hb1⟩; have e0 := cellk e0 hb1; have e1 := cellk e1 hb1; have e2 := cellk e2 hb1; have e3 := cellk e3 hb1; have e4 := cellk e4 hb1; have g0 := cellk g0 hb1; have g1 := cellk g1 hb1; have g2 := cellk g2 hb1; have g3 := cellk g3 hb1; have g4 := cellk g4 hb1)
  | (go_at_call 11; (with_reducible refine (HC11b.out _ hb1).mono ?_); rintro e w2 ⟨rfl, hb2⟩; have hq2 := below_then hb1 hb1.size hb2; have e0 := cellk e0 hb2; have e1 := cellk e1 hb2; have e2 := cellk e2 hb2; have e3 := cellk e3 hb2; have e4 := cellk e4 hb2; have g0 := cellk g0 hb2; have g1 := cellk g1 hb2; have g2 := cellk g2 hb2; have g3 := cellk g3 hb2; have g4 := cellk g4 hb2)
  | (go_at_call 11; (with_reducible refine (HC11t.out _ hq2).mono ?_); rintro e w3 ⟨rfl, hb3⟩; have hq3 := below_then HBR.out HBR.out.size (below_then hq2 hq2.size hb3))
  | (go_at_call 9; (with_reducible refine (C9.out _ hq3).mono ?_); rintro e w6 ⟨rfl, hb6⟩))
 go_ret
 exact ⟨rfl, HUP.out _ (below_then hq3 hq3.size hb6)⟩)))))))))))))))
end Go.Proofs.YtlpddogcnpokfaaGreatDoor
