/- Contracts of functions of the program, for the comparison of aggregations (part KDf2). -/
import Derived.Test.YtlpddogcnpokfaaGreatDoorKDf0
set_option linter.all false
namespace Go.Proofs.YtlpddogcnpokfaaGreatDoor
open Go.RowKit
set_option maxRecDepth 100000 in
set_option maxHeartbeats 4000000 in
theorem d110_112 {α : Type} (enc : α → List Value) (henc : ∀ x, (enc x).length = 13) (hone : ∀ x, ∀ u ∈ enc x, u.oneCell' = true) (p : α → α → Bool) (A1 A2 : Option Addr) (n1 n2 k1 k2 bc : Nat) (xs ys : List α) (fc : Value) (w : World)
 (h1 : Rd w w.heap.size 13 A1 n1 k1 (xs.map enc)) (h2 : Rd w w.heap.size 13 A2 n2 k2 (ys.map enc)) (hn1 : n1 ≤ 1000) (hn2 : n2 ≤ 1000)
 (hc : ∀ x y, x ∈ xs → y ∈ ys → ∀ W, Below w.heap.size w W → Calls Tryz.prog 112 #[.agg (enc x).toArray, .agg (enc y).toArray, .pointer (some ⟨bc, 0, none⟩)] W fun e w' => ∃ A n c, e = .returned (.slice A n c) ∧ Below W.heap.size W w' ∧ (n = 0 ↔ p x y = true)) :
 Calls Tryz.prog 110 #[.slice A1 n1 k1, .slice A2 n2 k2, fc, .func (.func 112) #[] #[.pointer (some ⟨bc, 0, none⟩)]] w fun e w' => e = .returned (dres (diffSame p xs ys)) ∧ Below w.heap.size w w' := by
 have l1 := h1.numlen
 have l2 := h2.numlen
 have H1 := Lib.hid h1
 have H2 := Lib.hid h2
 have HC := Lib.hid hc
 have L1 := Lib.hid l1
 have L2 := Lib.hid l2
 have t1 := h1.cap
 have t2 := h2.cap
 clear h1 h2 hc l1 l2
 obtain ⟨i0, zd, hi, hz0, hz1, hz2, hzc⟩ := infoD175
 have HI := Lib.hid (And.intro hi (And.intro hz0 (And.intro hz1 (And.intro hz2 hzc))))
 clear hi hz0 hz1 hz2 hzc
 have hmk := mk_bools n2 w (by omega)
 obtain ⟨W0, hW0⟩ : ∃ W0, W0 = w.alloc (.cells (visC (List.replicate n2 false)) 4) := ⟨_, rfl⟩
 have hv0 : W0.heap[w.heap.size]? = some (.cells (visC (List.replicate n2 false)) 4 (0, 0)) := by rw [hW0]; exact heap_alloc_new w _
 have hb0 : Below w.heap.size w W0 := ba hW0
 have hs0 : W0.heap.size = w.heap.size + 1 := by rw [hW0]; simp
 have HV0 := Lib.hid hv0
 have HB0 := Lib.hid hb0
 have HS0 := Lib.hid hs0
 have HW0 := Lib.hid hW0
 clear hW0 hv0 hb0 hs0
 go_enter Tryz.func110, Tryz.ntmps110
 go_upto_region 5 with fail
 rw [← HW0.out]
 clear hmk HW0
 as_aux_lemma => (
 have hl1 := L1.out
 have hl2 := L2.out
 go_loopw [10, 12, 13, 14, 21] (fun s10 _ _ _ s21 wr => D1 p xs ys w 175 13 s10 s21 wr) (fun _ _ _ _ s21 _ => n1 - (intOf s21).toNat)
 case atStart => exact ⟨0, 0, _, true, Nat.zero_le _, rfl, ⟨[], World.ownsRow_nil _ _ _ _⟩, Nat.le_refl _, by simp, List.length_replicate, ⟨by rw [hl2]; exact HV0.out, HB0.out⟩, by simp⟩
 case round => (
 obtain ⟨k, m, vis, fl, hk, rfl, hext, hmk, hfl, hvl, hseen, hmarks⟩ := hrel.ex
 obtain ⟨wo, rfl⟩ : ∃ wo : World, wo = wr := ⟨_, rfl⟩
 obtain ⟨eA, ec, rfl⟩ := hext.slice
 have HEX := Lib.hid hext
 have HSE := Lib.hid hseen
 have HMA := Lib.hid hmarks
 have HFL := Lib.hid hfl
 have HVL := Lib.hid hvl
 clear hext hseen hmarks hfl hvl hrel
 by_cases hlt : k < n1
 · (
 obtain ⟨ba, oa, r, rfl, hlta, hx, _, ca⟩ := (H1.out.below HSE.out.bel).at_ hlt
 rw [List.getElem?_map, Option.map_eq_some_iff] at hx
 obtain ⟨x, hx, rfl⟩ := hx
 have hxm := List.mem_of_getElem? hx
 have hdrop : xs.drop k = x :: xs.drop (k + 1) := drop_of_get hx
 have HDR := Lib.hid hdrop
 have HXM := Lib.hid hxm
 have hca : ∀ W, Below w.heap.size w W → W.rangeAt ba (oa + k * 13) (enc x) := fun W hW => by
  obtain ⟨ba', oa', r', e, _, hx', _, ca'⟩ := (H1.out.below hW).at_ hlt
  injection e with e
  injection e with e1 e2 _
  subst e1 e2
  rw [List.getElem?_map, hx] at hx'
  injection hx' with hx'
  subst hx'
  exact ca'
 have HCA := Lib.hid hca
 have i0 : (0 : Int) ≤ (k : Int) := by omega
 have i1 : (k : Int) < (n1 : Int) := by omega
 clear hx hxm hdrop ca hca
 as_aux_lemma => (
 go_upto_region 8 with fail
 go_upto_block 2 with fail
 go_cut [13, 14] from 24 to 48 (fun s13 s14 wx => D3 (p x) ys vis w 175 13 m (.slice eA m ec) s13 wx)
 case first => (
 as_aux_lemma => (
 go_wp2_with fail
 go_loopw [13, 14, 26] (fun s13 _ s26 wr => D2 (p x) ys vis w 175 13 m (.slice eA m ec) s13 s26 wr) (fun _ _ s26 _ => n2 - (intOf s26).toNat)
 case atStart => exact ⟨0, Nat.zero_le _, rfl, rfl, HEX.out, HSE.out, fun i y h => by omega⟩
 case round => (
 obtain ⟨j, hj, rfl, rfl, hext, hseen, hno⟩ := hrel.ex
 obtain ⟨wp, rfl⟩ : ∃ wo : World, wo = wr := ⟨_, rfl⟩
 have HEX2 := Lib.hid hext
 have HSE2 := Lib.hid hseen
 have HNO := Lib.hid hno
 clear hext hseen hno hrel
 by_cases hlt2 : j < n2
 · (
 obtain ⟨bb, ob, r, rfl, hltb, hy, _, cb⟩ := (H2.out.below HSE2.out.bel).at_ hlt2
 rw [List.getElem?_map, Option.map_eq_some_iff] at hy
 obtain ⟨y, hy, rfl⟩ := hy
 have hym := List.mem_of_getElem? hy
 obtain ⟨bv, hbv⟩ : ∃ bv, vis[j]? = some bv := ⟨vis[j]'(by have := HVL.out; omega), List.getElem?_eq_getElem _⟩
 have hcv := HSE2.out.cell hbv
 have j0 : (0 : Int) ≤ (j : Int) := by omega
 have j1 : (j : Int) < (n2 : Int) := by omega
 have HY := Lib.hid hy
 have HYM := Lib.hid hym
 have HBV := Lib.hid hbv
 clear hy hym hbv
 cases bv
 case true => (
 as_aux_lemma => (
 go_wp2_with fail
 go_roundw
 case rel => (
 refine ⟨j + 1, by omega, by go_num, rfl, HEX2.out, HSE2.out, fun i z hi hz => ?_⟩
 by_cases hij : i = j
 · subst hij; exact .inl HBV.out
 · exact HNO.out i z (by omega) hz)
 case measure => simp [intOf]; omega))
 case false => (
 have HRX := Lib.hid (HCA.out wp HSE2.out.bel)
 have HRY := Lib.hid cb
 have HBK : Hid (Below w.heap.size w wp.drew) := Lib.hid (below_drew HSE2.out.bel)
 clear cb hcv
 have hcv := HSE2.out.cell HBV.out
 as_aux_lemma => (
 go_upto_region 12 with fail
 go_cut [26, 44] from 26 to 48 (fun s26 s44 wx => s26 = .int .i64 j ∧ s44 = .bool (p x y) ∧ Below wp.heap.size wp wx)
 case first => (
 as_aux_lemma => (
 have hxm := HXM.out
 have hym := HYM.out
 refine wp_region_held_drew (S := fun w' => w'.rangeAt ba (oa + k * 13) (enc x) ∧ w'.rangeAt bb (ob + j * 13) (enc y)) (by kernel_rfl) ⟨HRX.out, HRY.out⟩ (fun hHeld => ?_)
 refine tk 0 33 (v := .func (.func 112) #[] #[.pointer (some ⟨bc, 0, none⟩)]) (a' := ?_) rfl rfl ?_ ?_ rfl ?_
 rotate_left 1
 · intro w2 hSw; go_simp
 · simp only [sI, s0, sS]; exact rfl
 refine tk 1 34 (v := .slice (some ⟨ba, oa, none⟩) n1 k1) (a' := ?_) rfl rfl ?_ ?_ rfl ?_
 rotate_left 1
 · intro w2 hSw; go_simp
 · simp only [sI, s0, sS]; exact rfl
 refine tk 2 35 (v := .int .i64 (k : Int)) (a' := ?_) rfl rfl ?_ ?_ rfl ?_
 rotate_left 1
 · intro w2 hSw; go_simp
 · simp only [sI, s0, sS]; exact rfl
 refine tk 3 36 (v := .pointer (some ⟨ba, oa + k * 13, none⟩)) (a' := ?_) rfl rfl ?_ ?_ rfl ?_
 rotate_left 1
 · intro w2 hSw; go_simp <;> (try (intro h; omega))
 · simp only [sI, s0, sS]; exact rfl
 refine tk 4 37 (v := .agg (enc x).toArray) (a' := ?_) rfl rfl ?_ ?_ rfl ?_
 rotate_left 1
 · intro w2 hSw; exact run_load_at rfl hSw.1 rfl Tryz.underlying175 rfl (by rw [henc]; exact info175)
 · simp only [sI, s0, sS]; exact rfl
 refine tk 5 38 (v := .slice (some ⟨bb, ob, none⟩) n2 k2) (a' := ?_) rfl rfl ?_ ?_ rfl ?_
 rotate_left 1
 · intro w2 hSw; go_simp
 · simp only [sI, s0, sS]; exact rfl
 refine tk 6 39 (v := .int .i64 (j : Int)) (a' := ?_) rfl rfl ?_ ?_ rfl ?_
 rotate_left 1
 · intro w2 hSw; go_simp
 · simp only [sI, s0, sS]; exact rfl
 refine tk 7 40 (v := .pointer (some ⟨bb, ob + j * 13, none⟩)) (a' := ?_) rfl rfl ?_ ?_ rfl ?_
 rotate_left 1
 · intro w2 hSw; go_simp <;> (try (intro h; omega))
 · simp only [sI, s0, sS]; exact rfl
 refine tk 8 41 (v := .agg (enc y).toArray) (a' := ?_) rfl rfl ?_ ?_ rfl ?_
 rotate_left 1
 · intro w2 hSw; exact run_load_at rfl hSw.2 rfl Tryz.underlying175 rfl (by rw [henc]; exact info175)
 · simp only [sI, s0, sS]; exact rfl
 refine wpAnyH_ready (rs := [9]) (by kernel_rfl) (by simp) ?_
 refine ar1 rfl (fun K hK => ?_)
 go_simp
 refine (HC.out x y hxm hym _ HBK.out).mono ?_
 rintro e w9 ⟨rA, rn, rc, rfl, hb9, hiff⟩
 try dsimp only
 refine hK.out _ _ ⟨fun t u ht => cellk (hHeld.1 t u ht) hb9, fun t u ht => cellk (hHeld.2 t u ht) hb9⟩ (fun hHeld => ?_)
 clear hK K
 refine tk 10 43 (v := .int .i64 (rn : Int)) (a' := ?_) rfl rfl ?_ ?_ rfl ?_
 rotate_left 1
 · intro w2 hSw; go_simp
 · simp only [sI, s0, sS]; exact rfl
 refine tk 11 44 (v := .bool (p x y)) (a' := ?_) rfl rfl ?_ ?_ rfl ?_
 rotate_left 1
 · intro w2 hSw; go_simp; exact eq0b hiff
 · simp only [sI, s0, sS]; exact rfl
 refine wpAnyH_done (by kernel_rfl) ?_ _
 go_wp2_with fail
 go_meet
 exact ⟨rfl, rfl, below_then (below_drew (Below.refl _ _)) (Nat.le_refl _) hb9⟩))
 case rest => (
 obtain ⟨rfl, rfl, hbx⟩ := hcut
 have hs9 := HSE2.out.below hbx
 have he9 := HEX2.out.below hbx
 have hcv9 := hs9.cell HBV.out
 have hfz9 := frozen_blk hs9.blk
 have HS9 := Lib.hid hs9
 have HE9 := Lib.hid he9
 generalize hpb : p x y = pb
 have HPB := Lib.hid hpb
 clear hs9 he9 hcv hbx hpb
 as_aux_lemma => (
 cases pb
 case true => (
 go_wp2_with fail
 go_meet
 exact ⟨⟨vis.set j true, .inr ⟨rfl, pick_some_of HY.out HBV.out HPB.out (fun i z hi hz => HNO.out i z hi hz)⟩, HE9.out.set j _, HS9.out.set j⟩⟩)
 case false => (
 go_wp2_with fail
 go_roundw
 case rel => (
 refine ⟨j + 1, by omega, by go_num, rfl, HE9.out, HS9.out, fun i z hi hz => ?_⟩
 by_cases hij : i = j
 · (
 subst hij
 have e := HY.out
 rw [hz] at e
 injection e with e
 subst e
 exact .inr HPB.out)
 · exact HNO.out i z (by omega) hz)
 case measure => simp [intOf]; omega))))))
 · as_aux_lemma => (
 go_wp2_with fail
 go_meet
 exact ⟨⟨vis, .inl ⟨rfl, pick_none_of (fun i z hz => HNO.out i z (by have := (List.getElem?_eq_some_iff.1 hz).1; omega) hz), rfl⟩, HEX2.out, HSE2.out⟩⟩))))
 case rest => (
 obtain ⟨vis2, hd3, hext2, hseen2⟩ := hcut.ex
 obtain ⟨wq, rfl⟩ : ∃ wo : World, wo = wc := ⟨_, rfl⟩
 have HE3 := Lib.hid hext2
 have HS3 := Lib.hid hseen2
 have HRX := Lib.hid (HCA.out wq hseen2.bel)
 obtain ⟨cx, hcx⟩ : ∃ cx, cx = (enc x).toArray := ⟨_, rfl⟩
 have sx : cx.size = 13 := by rw [hcx]; simpa using henc x
 have ox : ∀ u ∈ cx.toList, u.oneCell' = true := by rw [hcx]; exact hone x
 have hrx : wq.rangeAt ba (oa + k * 13) cx.toList := by rw [hcx]; exact HRX.out
 have HSX := Lib.hid sx
 have HOX := Lib.hid ox
 clear hcut hext2 hseen2 hcx sx ox
 rcases hd3 with ⟨rfl, hpk, rfl⟩ | ⟨rfl, hpk⟩
 · (
 have HPK := Lib.hid hpk
 clear hpk
 as_aux_lemma => (
 go_wp2_with (first
  | ((with_reducible refine arm_load hrx ?_ 13 info175 Tryz.underlying175 ?_ ?_ ?_); rfl; rfl; exact HSX.out)
  | ((with_reducible refine wpList_build1 175 13 (infoD_four infoD175) rfl _ _ rfl Tryz.underlying136 (by decide) ?_ HSX.out ?_); rfl)
  | (at_builtin; (refine wpList_ext infoD175 (by decide) (by decide) HE3.out HS3.out (by omega) HSX.out HOX.out rfl _ _ 136 rfl Tryz.underlying136 rfl rfl ?_ ?_; (first | rfl | simp); intro v1 w1 he1 hs1)))
 go_roundw
 case rel => (
 refine ⟨k + 1, m + 1, vis2, false, by omega, by go_num, he1, by omega, by simp, HVL.out, hs1, ?_⟩
 rw [HMA.out, HDR.out]
 simp only [marks, HPK.out]
 cases fl <;> rfl)
 case measure => simp [intOf]; omega))
 · (
 have HPK := Lib.hid hpk
 clear hpk
 as_aux_lemma => (
 go_wp2_with fail
 go_roundw
 case rel => (
 refine ⟨k + 1, m, vis2, fl, by omega, by go_num, HE3.out, by omega, HFL.out, by rw [(pick_trues _ _ _ _ HPK.out).2]; exact HVL.out, HS3.out, ?_⟩
 rw [HMA.out, HDR.out]
 simp only [marks, HPK.out])
 case measure => simp [intOf]; omega)))))
 · (
 have hkn : k = n1 := by omega
 have hdk : xs.drop k = [] := List.drop_eq_nil_of_le (by omega)
 have hfin : marks p xs ys (List.replicate ys.length false) = (fl, vis) := by rw [HMA.out, hdk]; simp [marks]
 have HFIN := Lib.hid hfin
 have hds : diffSame p xs ys = (fl && vis.all id) := by unfold diffSame; rw [hfin]
 have HDS := Lib.hid hds
 have e1 := eq0b HFL.out
 clear hdk hfin hds HMA HEX HFIN
 subst hkn
 as_aux_lemma => (
 go_upto_region 20 with fail
 go_loopw [11, 15, 61] (fun s11 _ s61 wr => D4 vis n2 w 175 13 s11 s61 wr) (fun _ _ i _ => n2 - (intOf i).toNat)
 case atStart => exact ⟨0, 0, Nat.zero_le _, rfl, ⟨[], World.ownsRow_nil _ _ _ _⟩, Nat.le_refl _, by simp, HSE.out⟩
 case round => (
 obtain ⟨j, m2, hj, rfl, hext, hm2, hiff, hseen⟩ := hrel.ex
 obtain ⟨wp, rfl⟩ : ∃ wo : World, wo = wr := ⟨_, rfl⟩
 obtain ⟨fA, fc2, rfl⟩ := hext.slice
 have HE4 := Lib.hid hext
 have HS4 := Lib.hid hseen
 have HIF := Lib.hid hiff
 clear hext hseen hiff hrel
 by_cases hlt2 : j < n2
 · (
 obtain ⟨bb, ob, r, rfl, hltb, hy, _, cb⟩ := (H2.out.below HS4.out.bel).at_ hlt2
 rw [List.getElem?_map, Option.map_eq_some_iff] at hy
 obtain ⟨y, hy, rfl⟩ := hy
 obtain ⟨bv, hbv⟩ : ∃ bv, vis[j]? = some bv := ⟨vis[j]'(by have := HVL.out; omega), List.getElem?_eq_getElem _⟩
 have hcv := HS4.out.cell hbv
 have htk : (vis.take (j + 1)).all id = ((vis.take j).all id && bv) := by
  obtain ⟨hjl, rfl⟩ := List.getElem?_eq_some_iff.1 hbv
  rw [List.take_succ_eq_append_getElem hjl, List.all_append]
  simp
 have HTK := Lib.hid htk
 have j0 : (0 : Int) ≤ (j : Int) := by omega
 have j1 : (j : Int) < (n2 : Int) := by omega
 obtain ⟨cx, hcx⟩ : ∃ cx, cx = (enc y).toArray := ⟨_, rfl⟩
 have sx : cx.size = 13 := by rw [hcx]; simpa using henc y
 have ox : ∀ u ∈ cx.toList, u.oneCell' = true := by rw [hcx]; exact hone y
 have hrx : wp.rangeAt bb (ob + j * 13) cx.toList := by rw [hcx]; exact cb
 have HSX := Lib.hid sx
 have HOX := Lib.hid ox
 clear hy hbv htk hcx sx ox cb
 cases bv
 case true => (
 as_aux_lemma => (
 go_wp2_with fail
 go_roundw
 case rel => exact ⟨j + 1, m2, by omega, by go_num, HE4.out, by omega, by rw [HTK.out, Bool.and_true]; exact HIF.out, HS4.out⟩
 case measure => simp [intOf]; omega))
 case false => (
 as_aux_lemma => (
 go_wp2_with (first
  | ((with_reducible refine arm_load hrx ?_ 13 info175 Tryz.underlying175 ?_ ?_ ?_); rfl; rfl; exact HSX.out)
  | ((with_reducible refine wpList_build1 175 13 (infoD_four infoD175) rfl _ _ rfl Tryz.underlying136 (by decide) ?_ HSX.out ?_); rfl)
  | (at_builtin; (refine wpList_ext infoD175 (by decide) (by decide) HE4.out HS4.out (by omega) HSX.out HOX.out rfl _ _ 136 rfl Tryz.underlying136 rfl rfl ?_ ?_; (first | rfl | simp); intro v1 w1 he1 hs1)))
 go_roundw
 case rel => exact ⟨j + 1, m2 + 1, by omega, by go_num, he1, by omega, by rw [HTK.out, Bool.and_false]; simp, hs1⟩
 case measure => simp [intOf]; omega)))
 · (
 have hjn : j = n2 := by omega
 have hta : vis.take j = vis := List.take_of_length_le (by have := HVL.out; omega)
 have hif := HIF.out
 rw [hta] at hif
 have e2 := eq0b hif
 clear hta hif
 generalize vis.all id = va at e2 HDS
 have f9 : ¬ (j : Int) < (n2 : Int) := by omega
 clear hjn HE4 HIF
 as_aux_lemma => (
 cases fl <;> cases va
 all_goals
  go_wp2_with fail
  go_ret
  exact ⟨(congrArg (fun b => Ending.returned (dres b)) HDS.out).symm, HS4.out.bel⟩)))))))
set_option maxRecDepth 100000 in
set_option maxHeartbeats 4000000 in
theorem d114_116 {α : Type} (enc : α → List Value) (henc : ∀ x, (enc x).length = 13) (hone : ∀ x, ∀ u ∈ enc x, u.oneCell' = true) (p : α → α → Bool) (A1 A2 : Option Addr) (n1 n2 k1 k2 bc : Nat) (xs ys : List α) (fc : Value) (w : World)
 (h1 : Rd w w.heap.size 13 A1 n1 k1 (xs.map enc)) (h2 : Rd w w.heap.size 13 A2 n2 k2 (ys.map enc)) (hn1 : n1 ≤ 1000) (hn2 : n2 ≤ 1000)
 (hc : ∀ x y, x ∈ xs → y ∈ ys → ∀ W, Below w.heap.size w W → Calls Tryz.prog 116 #[.agg (enc x).toArray, .agg (enc y).toArray, .pointer (some ⟨bc, 0, none⟩)] W fun e w' => ∃ A n c, e = .returned (.slice A n c) ∧ Below W.heap.size W w' ∧ (n = 0 ↔ p x y = true)) :
 Calls Tryz.prog 114 #[.slice A1 n1 k1, .slice A2 n2 k2, fc, .func (.func 116) #[] #[.pointer (some ⟨bc, 0, none⟩)]] w fun e w' => e = .returned (dres (diffSame p xs ys)) ∧ Below w.heap.size w w' := by
 have l1 := h1.numlen
 have l2 := h2.numlen
 have H1 := Lib.hid h1
 have H2 := Lib.hid h2
 have HC := Lib.hid hc
 have L1 := Lib.hid l1
 have L2 := Lib.hid l2
 have t1 := h1.cap
 have t2 := h2.cap
 clear h1 h2 hc l1 l2
 obtain ⟨i0, zd, hi, hz0, hz1, hz2, hzc⟩ := infoD162
 have HI := Lib.hid (And.intro hi (And.intro hz0 (And.intro hz1 (And.intro hz2 hzc))))
 clear hi hz0 hz1 hz2 hzc
 have hmk := mk_bools n2 w (by omega)
 obtain ⟨W0, hW0⟩ : ∃ W0, W0 = w.alloc (.cells (visC (List.replicate n2 false)) 4) := ⟨_, rfl⟩
 have hv0 : W0.heap[w.heap.size]? = some (.cells (visC (List.replicate n2 false)) 4 (0, 0)) := by rw [hW0]; exact heap_alloc_new w _
 have hb0 : Below w.heap.size w W0 := ba hW0
 have hs0 : W0.heap.size = w.heap.size + 1 := by rw [hW0]; simp
 have HV0 := Lib.hid hv0
 have HB0 := Lib.hid hb0
 have HS0 := Lib.hid hs0
 have HW0 := Lib.hid hW0
 clear hW0 hv0 hb0 hs0
 go_enter Tryz.func114, Tryz.ntmps114
 go_upto_region 5 with fail
 rw [← HW0.out]
 clear hmk HW0
 as_aux_lemma => (
 have hl1 := L1.out
 have hl2 := L2.out
 go_loopw [10, 12, 13, 14, 21] (fun s10 _ _ _ s21 wr => D1 p xs ys w 162 13 s10 s21 wr) (fun _ _ _ _ s21 _ => n1 - (intOf s21).toNat)
 case atStart => exact ⟨0, 0, _, true, Nat.zero_le _, rfl, ⟨[], World.ownsRow_nil _ _ _ _⟩, Nat.le_refl _, by simp, List.length_replicate, ⟨by rw [hl2]; exact HV0.out, HB0.out⟩, by simp⟩
 case round => (
 obtain ⟨k, m, vis, fl, hk, rfl, hext, hmk, hfl, hvl, hseen, hmarks⟩ := hrel.ex
 obtain ⟨wo, rfl⟩ : ∃ wo : World, wo = wr := ⟨_, rfl⟩
 obtain ⟨eA, ec, rfl⟩ := hext.slice
 have HEX := Lib.hid hext
 have HSE := Lib.hid hseen
 have HMA := Lib.hid hmarks
 have HFL := Lib.hid hfl
 have HVL := Lib.hid hvl
 clear hext hseen hmarks hfl hvl hrel
 by_cases hlt : k < n1
 · (
 obtain ⟨ba, oa, r, rfl, hlta, hx, _, ca⟩ := (H1.out.below HSE.out.bel).at_ hlt
 rw [List.getElem?_map, Option.map_eq_some_iff] at hx
 obtain ⟨x, hx, rfl⟩ := hx
 have hxm := List.mem_of_getElem? hx
 have hdrop : xs.drop k = x :: xs.drop (k + 1) := drop_of_get hx
 have HDR := Lib.hid hdrop
 have HXM := Lib.hid hxm
 have hca : ∀ W, Below w.heap.size w W → W.rangeAt ba (oa + k * 13) (enc x) := fun W hW => by
  obtain ⟨ba', oa', r', e, _, hx', _, ca'⟩ := (H1.out.below hW).at_ hlt
  injection e with e
  injection e with e1 e2 _
  subst e1 e2
  rw [List.getElem?_map, hx] at hx'
  injection hx' with hx'
  subst hx'
  exact ca'
 have HCA := Lib.hid hca
 have i0 : (0 : Int) ≤ (k : Int) := by omega
 have i1 : (k : Int) < (n1 : Int) := by omega
 clear hx hxm hdrop ca hca
 as_aux_lemma => (
 go_upto_region 8 with fail
 go_upto_block 2 with fail
 go_cut [13, 14] from 24 to 48 (fun s13 s14 wx => D3 (p x) ys vis w 162 13 m (.slice eA m ec) s13 wx)
 case first => (
 as_aux_lemma => (
 go_wp2_with fail
 go_loopw [13, 14, 26] (fun s13 _ s26 wr => D2 (p x) ys vis w 162 13 m (.slice eA m ec) s13 s26 wr) (fun _ _ s26 _ => n2 - (intOf s26).toNat)
 case atStart => exact ⟨0, Nat.zero_le _, rfl, rfl, HEX.out, HSE.out, fun i y h => by omega⟩
 case round => (
 obtain ⟨j, hj, rfl, rfl, hext, hseen, hno⟩ := hrel.ex
 obtain ⟨wp, rfl⟩ : ∃ wo : World, wo = wr := ⟨_, rfl⟩
 have HEX2 := Lib.hid hext
 have HSE2 := Lib.hid hseen
 have HNO := Lib.hid hno
 clear hext hseen hno hrel
 by_cases hlt2 : j < n2
 · (
 obtain ⟨bb, ob, r, rfl, hltb, hy, _, cb⟩ := (H2.out.below HSE2.out.bel).at_ hlt2
 rw [List.getElem?_map, Option.map_eq_some_iff] at hy
 obtain ⟨y, hy, rfl⟩ := hy
 have hym := List.mem_of_getElem? hy
 obtain ⟨bv, hbv⟩ : ∃ bv, vis[j]? = some bv := ⟨vis[j]'(by have := HVL.out; omega), List.getElem?_eq_getElem _⟩
 have hcv := HSE2.out.cell hbv
 have j0 : (0 : Int) ≤ (j : Int) := by omega
 have j1 : (j : Int) < (n2 : Int) := by omega
 have HY := Lib.hid hy
 have HYM := Lib.hid hym
 have HBV := Lib.hid hbv
 clear hy hym hbv
 cases bv
 case true => (
 as_aux_lemma => (
 go_wp2_with fail
 go_roundw
 case rel => (
 refine ⟨j + 1, by omega, by go_num, rfl, HEX2.out, HSE2.out, fun i z hi hz => ?_⟩
 by_cases hij : i = j
 · subst hij; exact .inl HBV.out
 · exact HNO.out i z (by omega) hz)
 case measure => simp [intOf]; omega))
 case false => (
 have HRX := Lib.hid (HCA.out wp HSE2.out.bel)
 have HRY := Lib.hid cb
 have HBK : Hid (Below w.heap.size w wp.drew) := Lib.hid (below_drew HSE2.out.bel)
 clear cb hcv
 have hcv := HSE2.out.cell HBV.out
 as_aux_lemma => (
 go_upto_region 12 with fail
 go_cut [26, 44] from 26 to 48 (fun s26 s44 wx => s26 = .int .i64 j ∧ s44 = .bool (p x y) ∧ Below wp.heap.size wp wx)
 case first => (
 as_aux_lemma => (
 have hxm := HXM.out
 have hym := HYM.out
 refine wp_region_held_drew (S := fun w' => w'.rangeAt ba (oa + k * 13) (enc x) ∧ w'.rangeAt bb (ob + j * 13) (enc y)) (by kernel_rfl) ⟨HRX.out, HRY.out⟩ (fun hHeld => ?_)
 refine tk 0 33 (v := .func (.func 116) #[] #[.pointer (some ⟨bc, 0, none⟩)]) (a' := ?_) rfl rfl ?_ ?_ rfl ?_
 rotate_left 1
 · intro w2 hSw; go_simp
 · simp only [sI, s0, sS]; exact rfl
 refine tk 1 34 (v := .slice (some ⟨ba, oa, none⟩) n1 k1) (a' := ?_) rfl rfl ?_ ?_ rfl ?_
 rotate_left 1
 · intro w2 hSw; go_simp
 · simp only [sI, s0, sS]; exact rfl
 refine tk 2 35 (v := .int .i64 (k : Int)) (a' := ?_) rfl rfl ?_ ?_ rfl ?_
 rotate_left 1
 · intro w2 hSw; go_simp
 · simp only [sI, s0, sS]; exact rfl
 refine tk 3 36 (v := .pointer (some ⟨ba, oa + k * 13, none⟩)) (a' := ?_) rfl rfl ?_ ?_ rfl ?_
 rotate_left 1
 · intro w2 hSw; go_simp <;> (try (intro h; omega))
 · simp only [sI, s0, sS]; exact rfl
 refine tk 4 37 (v := .agg (enc x).toArray) (a' := ?_) rfl rfl ?_ ?_ rfl ?_
 rotate_left 1
 · intro w2 hSw; exact run_load_at rfl hSw.1 rfl Tryz.underlying162 rfl (by rw [henc]; exact info162)
 · simp only [sI, s0, sS]; exact rfl
 refine tk 5 38 (v := .slice (some ⟨bb, ob, none⟩) n2 k2) (a' := ?_) rfl rfl ?_ ?_ rfl ?_
 rotate_left 1
 · intro w2 hSw; go_simp
 · simp only [sI, s0, sS]; exact rfl
 refine tk 6 39 (v := .int .i64 (j : Int)) (a' := ?_) rfl rfl ?_ ?_ rfl ?_
 rotate_left 1
 · intro w2 hSw; go_simp
 · simp only [sI, s0, sS]; exact rfl
 refine tk 7 40 (v := .pointer (some ⟨bb, ob + j * 13, none⟩)) (a' := ?_) rfl rfl ?_ ?_ rfl ?_
 rotate_left 1
 · intro w2 hSw; go_simp <;> (try (intro h; omega))
 · simp only [sI, s0, sS]; exact rfl
 refine tk 8 41 (v := .agg (enc y).toArray) (a' := ?_) rfl rfl ?_ ?_ rfl ?_
 rotate_left 1
 · intro w2 hSw; exact run_load_at rfl hSw.2 rfl Tryz.underlying162 rfl (by rw [henc]; exact info162)
 · simp only [sI, s0, sS]; exact rfl
 refine wpAnyH_ready (rs := [9]) (by kernel_rfl) (by simp) ?_
 refine ar1 rfl (fun K hK => ?_)
 go_simp
 refine (HC.out x y hxm hym _ HBK.out).mono ?_
 rintro e w9 ⟨rA, rn, rc, rfl, hb9, hiff⟩
 try dsimp only
 refine hK.out _ _ ⟨fun t u ht => cellk (hHeld.1 t u ht) hb9, fun t u ht => cellk (hHeld.2 t u ht) hb9⟩ (fun hHeld => ?_)
 clear hK K
 refine tk 10 43 (v := .int .i64 (rn : Int)) (a' := ?_) rfl rfl ?_ ?_ rfl ?_
 rotate_left 1
 · intro w2 hSw; go_simp
 · simp only [sI, s0, sS]; exact rfl
 refine tk 11 44 (v := .bool (p x y)) (a' := ?_) rfl rfl ?_ ?_ rfl ?_
 rotate_left 1
 · intro w2 hSw; go_simp; exact eq0b hiff
 · simp only [sI, s0, sS]; exact rfl
 refine wpAnyH_done (by kernel_rfl) ?_ _
 go_wp2_with fail
 go_meet
 exact ⟨rfl, rfl, below_then (below_drew (Below.refl _ _)) (Nat.le_refl _) hb9⟩))
 case rest => (
 obtain ⟨rfl, rfl, hbx⟩ := hcut
 have hs9 := HSE2.out.below hbx
 have he9 := HEX2.out.below hbx
 have hcv9 := hs9.cell HBV.out
 have hfz9 := frozen_blk hs9.blk
 have HS9 := Lib.hid hs9
 have HE9 := Lib.hid he9
 generalize hpb : p x y = pb
 have HPB := Lib.hid hpb
 clear hs9 he9 hcv hbx hpb
 as_aux_lemma => (
 cases pb
 case true => (
 go_wp2_with fail
 go_meet
 exact ⟨⟨vis.set j true, .inr ⟨rfl, pick_some_of HY.out HBV.out HPB.out (fun i z hi hz => HNO.out i z hi hz)⟩, HE9.out.set j _, HS9.out.set j⟩⟩)
 case false => (
 go_wp2_with fail
 go_roundw
 case rel => (
 refine ⟨j + 1, by omega, by go_num, rfl, HE9.out, HS9.out, fun i z hi hz => ?_⟩
 by_cases hij : i = j
 · (
 subst hij
 have e := HY.out
 rw [hz] at e
 injection e with e
 subst e
 exact .inr HPB.out)
 · exact HNO.out i z (by omega) hz)
 case measure => simp [intOf]; omega))))))
 · as_aux_lemma => (
 go_wp2_with fail
 go_meet
 exact ⟨⟨vis, .inl ⟨rfl, pick_none_of (fun i z hz => HNO.out i z (by have := (List.getElem?_eq_some_iff.1 hz).1; omega) hz), rfl⟩, HEX2.out, HSE2.out⟩⟩))))
 case rest => (
 obtain ⟨vis2, hd3, hext2, hseen2⟩ := hcut.ex
 obtain ⟨wq, rfl⟩ : ∃ wo : World, wo = wc := ⟨_, rfl⟩
 have HE3 := Lib.hid hext2
 have HS3 := Lib.hid hseen2
 have HRX := Lib.hid (HCA.out wq hseen2.bel)
 obtain ⟨cx, hcx⟩ : ∃ cx, cx = (enc x).toArray := ⟨_, rfl⟩
 have sx : cx.size = 13 := by rw [hcx]; simpa using henc x
 have ox : ∀ u ∈ cx.toList, u.oneCell' = true := by rw [hcx]; exact hone x
 have hrx : wq.rangeAt ba (oa + k * 13) cx.toList := by rw [hcx]; exact HRX.out
 have HSX := Lib.hid sx
 have HOX := Lib.hid ox
 clear hcut hext2 hseen2 hcx sx ox
 rcases hd3 with ⟨rfl, hpk, rfl⟩ | ⟨rfl, hpk⟩
 · (
 have HPK := Lib.hid hpk
 clear hpk
 as_aux_lemma => (
 go_wp2_with (first
  | ((with_reducible refine arm_load hrx ?_ 13 info162 Tryz.underlying162 ?_ ?_ ?_); rfl; rfl; exact HSX.out)
  | ((with_reducible refine wpList_build1 162 13 (infoD_four infoD162) rfl _ _ rfl Tryz.underlying140 (by decide) ?_ HSX.out ?_); rfl)
  | (at_builtin; (refine wpList_ext infoD162 (by decide) (by decide) HE3.out HS3.out (by omega) HSX.out HOX.out rfl _ _ 140 rfl Tryz.underlying140 rfl rfl ?_ ?_; (first | rfl | simp); intro v1 w1 he1 hs1)))
 go_roundw
 case rel => (
 refine ⟨k + 1, m + 1, vis2, false, by omega, by go_num, he1, by omega, by simp, HVL.out, hs1, ?_⟩
 rw [HMA.out, HDR.out]
 simp only [marks, HPK.out]
 cases fl <;> rfl)
 case measure => simp [intOf]; omega))
 · (
 have HPK := Lib.hid hpk
 clear hpk
 as_aux_lemma => (
 go_wp2_with fail
 go_roundw
 case rel => (
 refine ⟨k + 1, m, vis2, fl, by omega, by go_num, HE3.out, by omega, HFL.out, by rw [(pick_trues _ _ _ _ HPK.out).2]; exact HVL.out, HS3.out, ?_⟩
 rw [HMA.out, HDR.out]
 simp only [marks, HPK.out])
 case measure => simp [intOf]; omega)))))
 · (
 have hkn : k = n1 := by omega
 have hdk : xs.drop k = [] := List.drop_eq_nil_of_le (by omega)
 have hfin : marks p xs ys (List.replicate ys.length false) = (fl, vis) := by rw [HMA.out, hdk]; simp [marks]
 have HFIN := Lib.hid hfin
 have hds : diffSame p xs ys = (fl && vis.all id) := by unfold diffSame; rw [hfin]
 have HDS := Lib.hid hds
 have e1 := eq0b HFL.out
 clear hdk hfin hds HMA HEX HFIN
 subst hkn
 as_aux_lemma => (
 go_upto_region 20 with fail
 go_loopw [11, 15, 61] (fun s11 _ s61 wr => D4 vis n2 w 162 13 s11 s61 wr) (fun _ _ i _ => n2 - (intOf i).toNat)
 case atStart => exact ⟨0, 0, Nat.zero_le _, rfl, ⟨[], World.ownsRow_nil _ _ _ _⟩, Nat.le_refl _, by simp, HSE.out⟩
 case round => (
 obtain ⟨j, m2, hj, rfl, hext, hm2, hiff, hseen⟩ := hrel.ex
 obtain ⟨wp, rfl⟩ : ∃ wo : World, wo = wr := ⟨_, rfl⟩
 obtain ⟨fA, fc2, rfl⟩ := hext.slice
 have HE4 := Lib.hid hext
 have HS4 := Lib.hid hseen
 have HIF := Lib.hid hiff
 clear hext hseen hiff hrel
 by_cases hlt2 : j < n2
 · (
 obtain ⟨bb, ob, r, rfl, hltb, hy, _, cb⟩ := (H2.out.below HS4.out.bel).at_ hlt2
 rw [List.getElem?_map, Option.map_eq_some_iff] at hy
 obtain ⟨y, hy, rfl⟩ := hy
 obtain ⟨bv, hbv⟩ : ∃ bv, vis[j]? = some bv := ⟨vis[j]'(by have := HVL.out; omega), List.getElem?_eq_getElem _⟩
 have hcv := HS4.out.cell hbv
 have htk : (vis.take (j + 1)).all id = ((vis.take j).all id && bv) := by
  obtain ⟨hjl, rfl⟩ := List.getElem?_eq_some_iff.1 hbv
  rw [List.take_succ_eq_append_getElem hjl, List.all_append]
  simp
 have HTK := Lib.hid htk
 have j0 : (0 : Int) ≤ (j : Int) := by omega
 have j1 : (j : Int) < (n2 : Int) := by omega
 obtain ⟨cx, hcx⟩ : ∃ cx, cx = (enc y).toArray := ⟨_, rfl⟩
 have sx : cx.size = 13 := by rw [hcx]; simpa using henc y
 have ox : ∀ u ∈ cx.toList, u.oneCell' = true := by rw [hcx]; exact hone y
 have hrx : wp.rangeAt bb (ob + j * 13) cx.toList := by rw [hcx]; exact cb
 have HSX := Lib.hid sx
 have HOX := Lib.hid ox
 clear hy hbv htk hcx sx ox cb
 cases bv
 case true => (
 as_aux_lemma => (
 go_wp2_with fail
 go_roundw
 case rel => exact ⟨j + 1, m2, by omega, by go_num, HE4.out, by omega, by rw [HTK.out, Bool.and_true]; exact HIF.out, HS4.out⟩
 case measure => simp [intOf]; omega))
 case false => (
 as_aux_lemma => (
 go_wp2_with (first
  | ((with_reducible refine arm_load hrx ?_ 13 info162 Tryz.underlying162 ?_ ?_ ?_); rfl; rfl; exact HSX.out)
  | ((with_reducible refine wpList_build1 162 13 (infoD_four infoD162) rfl _ _ rfl Tryz.underlying140 (by decide) ?_ HSX.out ?_); rfl)
  | (at_builtin; (refine wpList_ext infoD162 (by decide) (by decide) HE4.out HS4.out (by omega) HSX.out HOX.out rfl _ _ 140 rfl Tryz.underlying140 rfl rfl ?_ ?_; (first | rfl | simp); intro v1 w1 he1 hs1)))
 go_roundw
 case rel => exact ⟨j + 1, m2 + 1, by omega, by go_num, he1, by omega, by rw [HTK.out, Bool.and_false]; simp, hs1⟩
 case measure => simp [intOf]; omega)))
 · (
 have hjn : j = n2 := by omega
 have hta : vis.take j = vis := List.take_of_length_le (by have := HVL.out; omega)
 have hif := HIF.out
 rw [hta] at hif
 have e2 := eq0b hif
 clear hta hif
 generalize vis.all id = va at e2 HDS
 have f9 : ¬ (j : Int) < (n2 : Int) := by omega
 clear hjn HE4 HIF
 as_aux_lemma => (
 cases fl <;> cases va
 all_goals
  go_wp2_with fail
  go_ret
  exact ⟨(congrArg (fun b => Ending.returned (dres b)) HDS.out).symm, HS4.out.bel⟩)))))))
set_option maxRecDepth 100000 in
set_option maxHeartbeats 4000000 in
theorem d118_120 {α : Type} (enc : α → List Value) (henc : ∀ x, (enc x).length = 18) (hone : ∀ x, ∀ u ∈ enc x, u.oneCell' = true) (p : α → α → Bool) (A1 A2 : Option Addr) (n1 n2 k1 k2 bc : Nat) (xs ys : List α) (fc : Value) (w : World)
 (h1 : Rd w w.heap.size 18 A1 n1 k1 (xs.map enc)) (h2 : Rd w w.heap.size 18 A2 n2 k2 (ys.map enc)) (hn1 : n1 ≤ 1000) (hn2 : n2 ≤ 1000)
 (hc : ∀ x y, x ∈ xs → y ∈ ys → ∀ W, Below w.heap.size w W → Calls Tryz.prog 120 #[.agg (enc x).toArray, .agg (enc y).toArray, .pointer (some ⟨bc, 0, none⟩)] W fun e w' => ∃ A n c, e = .returned (.slice A n c) ∧ Below W.heap.size W w' ∧ (n = 0 ↔ p x y = true)) :
 Calls Tryz.prog 118 #[.slice A1 n1 k1, .slice A2 n2 k2, fc, .func (.func 120) #[] #[.pointer (some ⟨bc, 0, none⟩)]] w fun e w' => e = .returned (dres (diffSame p xs ys)) ∧ Below w.heap.size w w' := by
 have l1 := h1.numlen
 have l2 := h2.numlen
 have H1 := Lib.hid h1
 have H2 := Lib.hid h2
 have HC := Lib.hid hc
 have L1 := Lib.hid l1
 have L2 := Lib.hid l2
 have t1 := h1.cap
 have t2 := h2.cap
 clear h1 h2 hc l1 l2
 obtain ⟨i0, zd, hi, hz0, hz1, hz2, hzc⟩ := infoD178
 have HI := Lib.hid (And.intro hi (And.intro hz0 (And.intro hz1 (And.intro hz2 hzc))))
 clear hi hz0 hz1 hz2 hzc
 have hmk := mk_bools n2 w (by omega)
 obtain ⟨W0, hW0⟩ : ∃ W0, W0 = w.alloc (.cells (visC (List.replicate n2 false)) 4) := ⟨_, rfl⟩
 have hv0 : W0.heap[w.heap.size]? = some (.cells (visC (List.replicate n2 false)) 4 (0, 0)) := by rw [hW0]; exact heap_alloc_new w _
 have hb0 : Below w.heap.size w W0 := ba hW0
 have hs0 : W0.heap.size = w.heap.size + 1 := by rw [hW0]; simp
 have HV0 := Lib.hid hv0
 have HB0 := Lib.hid hb0
 have HS0 := Lib.hid hs0
 have HW0 := Lib.hid hW0
 clear hW0 hv0 hb0 hs0
 go_enter Tryz.func118, Tryz.ntmps118
 go_upto_region 5 with fail
 rw [← HW0.out]
 clear hmk HW0
 as_aux_lemma => (
 have hl1 := L1.out
 have hl2 := L2.out
 go_loopw [10, 12, 13, 14, 21] (fun s10 _ _ _ s21 wr => D1 p xs ys w 178 18 s10 s21 wr) (fun _ _ _ _ s21 _ => n1 - (intOf s21).toNat)
 case atStart => exact ⟨0, 0, _, true, Nat.zero_le _, rfl, ⟨[], World.ownsRow_nil _ _ _ _⟩, Nat.le_refl _, by simp, List.length_replicate, ⟨by rw [hl2]; exact HV0.out, HB0.out⟩, by simp⟩
 case round => (
 obtain ⟨k, m, vis, fl, hk, rfl, hext, hmk, hfl, hvl, hseen, hmarks⟩ := hrel.ex
 obtain ⟨wo, rfl⟩ : ∃ wo : World, wo = wr := ⟨_, rfl⟩
 obtain ⟨eA, ec, rfl⟩ := hext.slice
 have HEX := Lib.hid hext
 have HSE := Lib.hid hseen
 have HMA := Lib.hid hmarks
 have HFL := Lib.hid hfl
 have HVL := Lib.hid hvl
 clear hext hseen hmarks hfl hvl hrel
 by_cases hlt : k < n1
 · (
 obtain ⟨ba, oa, r, rfl, hlta, hx, _, ca⟩ := (H1.out.below HSE.out.bel).at_ hlt
 rw [List.getElem?_map, Option.map_eq_some_iff] at hx
 obtain ⟨x, hx, rfl⟩ := hx
 have hxm := List.mem_of_getElem? hx
 have hdrop : xs.drop k = x :: xs.drop (k + 1) := drop_of_get hx
 have HDR := Lib.hid hdrop
 have HXM := Lib.hid hxm
 have hca : ∀ W, Below w.heap.size w W → W.rangeAt ba (oa + k * 18) (enc x) := fun W hW => by
  obtain ⟨ba', oa', r', e, _, hx', _, ca'⟩ := (H1.out.below hW).at_ hlt
  injection e with e
  injection e with e1 e2 _
  subst e1 e2
  rw [List.getElem?_map, hx] at hx'
  injection hx' with hx'
  subst hx'
  exact ca'
 have HCA := Lib.hid hca
 have i0 : (0 : Int) ≤ (k : Int) := by omega
 have i1 : (k : Int) < (n1 : Int) := by omega
 clear hx hxm hdrop ca hca
 as_aux_lemma => (
 go_upto_region 8 with fail
 go_upto_block 2 with fail
 go_cut [13, 14] from 24 to 48 (fun s13 s14 wx => D3 (p x) ys vis w 178 18 m (.slice eA m ec) s13 wx)
 case first => (
 as_aux_lemma => (
 go_wp2_with fail
 go_loopw [13, 14, 26] (fun s13 _ s26 wr => D2 (p x) ys vis w 178 18 m (.slice eA m ec) s13 s26 wr) (fun _ _ s26 _ => n2 - (intOf s26).toNat)
 case atStart => exact ⟨0, Nat.zero_le _, rfl, rfl, HEX.out, HSE.out, fun i y h => by omega⟩
 case round => (
 obtain ⟨j, hj, rfl, rfl, hext, hseen, hno⟩ := hrel.ex
 obtain ⟨wp, rfl⟩ : ∃ wo : World, wo = wr := ⟨_, rfl⟩
 have HEX2 := Lib.hid hext
 have HSE2 := Lib.hid hseen
 have HNO := Lib.hid hno
 clear hext hseen hno hrel
 by_cases hlt2 : j < n2
 · (
 obtain ⟨bb, ob, r, rfl, hltb, hy, _, cb⟩ := (H2.out.below HSE2.out.bel).at_ hlt2
 rw [List.getElem?_map, Option.map_eq_some_iff] at hy
 obtain ⟨y, hy, rfl⟩ := hy
 have hym := List.mem_of_getElem? hy
 obtain ⟨bv, hbv⟩ : ∃ bv, vis[j]? = some bv := ⟨vis[j]'(by have := HVL.out; omega), List.getElem?_eq_getElem _⟩
 have hcv := HSE2.out.cell hbv
 have j0 : (0 : Int) ≤ (j : Int) := by omega
 have j1 : (j : Int) < (n2 : Int) := by omega
 have HY := Lib.hid hy
 have HYM := Lib.hid hym
 have HBV := Lib.hid hbv
 clear hy hym hbv
 cases bv
 case true => (
 as_aux_lemma => (
 go_wp2_with fail
 go_roundw
 case rel => (
 refine ⟨j + 1, by omega, by go_num, rfl, HEX2.out, HSE2.out, fun i z hi hz => ?_⟩
 by_cases hij : i = j
 · subst hij; exact .inl HBV.out
 · exact HNO.out i z (by omega) hz)
 case measure => simp [intOf]; omega))
 case false => (
 have HRX := Lib.hid (HCA.out wp HSE2.out.bel)
 have HRY := Lib.hid cb
 have HBK : Hid (Below w.heap.size w wp.drew) := Lib.hid (below_drew HSE2.out.bel)
 clear cb hcv
 have hcv := HSE2.out.cell HBV.out
 as_aux_lemma => (
 go_upto_region 12 with fail
 go_cut [26, 44] from 26 to 48 (fun s26 s44 wx => s26 = .int .i64 j ∧ s44 = .bool (p x y) ∧ Below wp.heap.size wp wx)
 case first => (
 as_aux_lemma => (
 have hxm := HXM.out
 have hym := HYM.out
 refine wp_region_held_drew (S := fun w' => w'.rangeAt ba (oa + k * 18) (enc x) ∧ w'.rangeAt bb (ob + j * 18) (enc y)) (by kernel_rfl) ⟨HRX.out, HRY.out⟩ (fun hHeld => ?_)
 refine tk 0 33 (v := .func (.func 120) #[] #[.pointer (some ⟨bc, 0, none⟩)]) (a' := ?_) rfl rfl ?_ ?_ rfl ?_
 rotate_left 1
 · intro w2 hSw; go_simp
 · simp only [sI, s0, sS]; exact rfl
 refine tk 1 34 (v := .slice (some ⟨ba, oa, none⟩) n1 k1) (a' := ?_) rfl rfl ?_ ?_ rfl ?_
 rotate_left 1
 · intro w2 hSw; go_simp
 · simp only [sI, s0, sS]; exact rfl
 refine tk 2 35 (v := .int .i64 (k : Int)) (a' := ?_) rfl rfl ?_ ?_ rfl ?_
 rotate_left 1
 · intro w2 hSw; go_simp
 · simp only [sI, s0, sS]; exact rfl
 refine tk 3 36 (v := .pointer (some ⟨ba, oa + k * 18, none⟩)) (a' := ?_) rfl rfl ?_ ?_ rfl ?_
 rotate_left 1
 · intro w2 hSw; go_simp <;> (try (intro h; omega))
 · simp only [sI, s0, sS]; exact rfl
 refine tk 4 37 (v := .agg (enc x).toArray) (a' := ?_) rfl rfl ?_ ?_ rfl ?_
 rotate_left 1
 · intro w2 hSw; exact run_load_at rfl hSw.1 rfl Tryz.underlying178 rfl (by rw [henc]; exact info178)
 · simp only [sI, s0, sS]; exact rfl
 refine tk 5 38 (v := .slice (some ⟨bb, ob, none⟩) n2 k2) (a' := ?_) rfl rfl ?_ ?_ rfl ?_
 rotate_left 1
 · intro w2 hSw; go_simp
 · simp only [sI, s0, sS]; exact rfl
 refine tk 6 39 (v := .int .i64 (j : Int)) (a' := ?_) rfl rfl ?_ ?_ rfl ?_
 rotate_left 1
 · intro w2 hSw; go_simp
 · simp only [sI, s0, sS]; exact rfl
 refine tk 7 40 (v := .pointer (some ⟨bb, ob + j * 18, none⟩)) (a' := ?_) rfl rfl ?_ ?_ rfl ?_
 rotate_left 1
 · intro w2 hSw; go_simp <;> (try (intro h; omega))
 · simp only [sI, s0, sS]; exact rfl
 refine tk 8 41 (v := .agg (enc y).toArray) (a' := ?_) rfl rfl ?_ ?_ rfl ?_
 rotate_left 1
 · intro w2 hSw; exact run_load_at rfl hSw.2 rfl Tryz.underlying178 rfl (by rw [henc]; exact info178)
 · simp only [sI, s0, sS]; exact rfl
 refine wpAnyH_ready (rs := [9]) (by kernel_rfl) (by simp) ?_
 refine ar1 rfl (fun K hK => ?_)
 go_simp
 refine (HC.out x y hxm hym _ HBK.out).mono ?_
 rintro e w9 ⟨rA, rn, rc, rfl, hb9, hiff⟩
 try dsimp only
 refine hK.out _ _ ⟨fun t u ht => cellk (hHeld.1 t u ht) hb9, fun t u ht => cellk (hHeld.2 t u ht) hb9⟩ (fun hHeld => ?_)
 clear hK K
 refine tk 10 43 (v := .int .i64 (rn : Int)) (a' := ?_) rfl rfl ?_ ?_ rfl ?_
 rotate_left 1
 · intro w2 hSw; go_simp
 · simp only [sI, s0, sS]; exact rfl
 refine tk 11 44 (v := .bool (p x y)) (a' := ?_) rfl rfl ?_ ?_ rfl ?_
 rotate_left 1
 · intro w2 hSw; go_simp; exact eq0b hiff
 · simp only [sI, s0, sS]; exact rfl
 refine wpAnyH_done (by kernel_rfl) ?_ _
 go_wp2_with fail
 go_meet
 exact ⟨rfl, rfl, below_then (below_drew (Below.refl _ _)) (Nat.le_refl _) hb9⟩))
 case rest => (
 obtain ⟨rfl, rfl, hbx⟩ := hcut
 have hs9 := HSE2.out.below hbx
 have he9 := HEX2.out.below hbx
 have hcv9 := hs9.cell HBV.out
 have hfz9 := frozen_blk hs9.blk
 have HS9 := Lib.hid hs9
 have HE9 := Lib.hid he9
 generalize hpb : p x y = pb
 have HPB := Lib.hid hpb
 clear hs9 he9 hcv hbx hpb
 as_aux_lemma => (
 cases pb
 case true => (
 go_wp2_with fail
 go_meet
 exact ⟨⟨vis.set j true, .inr ⟨rfl, pick_some_of HY.out HBV.out HPB.out (fun i z hi hz => HNO.out i z hi hz)⟩, HE9.out.set j _, HS9.out.set j⟩⟩)
 case false => (
 go_wp2_with fail
 go_roundw
 case rel => (
 refine ⟨j + 1, by omega, by go_num, rfl, HE9.out, HS9.out, fun i z hi hz => ?_⟩
 by_cases hij : i = j
 · (
 subst hij
 have e := HY.out
 rw [hz] at e
 injection e with e
 subst e
 exact .inr HPB.out)
 · exact HNO.out i z (by omega) hz)
 case measure => simp [intOf]; omega))))))
 · as_aux_lemma => (
 go_wp2_with fail
 go_meet
 exact ⟨⟨vis, .inl ⟨rfl, pick_none_of (fun i z hz => HNO.out i z (by have := (List.getElem?_eq_some_iff.1 hz).1; omega) hz), rfl⟩, HEX2.out, HSE2.out⟩⟩))))
 case rest => (
 obtain ⟨vis2, hd3, hext2, hseen2⟩ := hcut.ex
 obtain ⟨wq, rfl⟩ : ∃ wo : World, wo = wc := ⟨_, rfl⟩
 have HE3 := Lib.hid hext2
 have HS3 := Lib.hid hseen2
 have HRX := Lib.hid (HCA.out wq hseen2.bel)
 obtain ⟨cx, hcx⟩ : ∃ cx, cx = (enc x).toArray := ⟨_, rfl⟩
 have sx : cx.size = 18 := by rw [hcx]; simpa using henc x
 have ox : ∀ u ∈ cx.toList, u.oneCell' = true := by rw [hcx]; exact hone x
 have hrx : wq.rangeAt ba (oa + k * 18) cx.toList := by rw [hcx]; exact HRX.out
 have HSX := Lib.hid sx
 have HOX := Lib.hid ox
 clear hcut hext2 hseen2 hcx sx ox
 rcases hd3 with ⟨rfl, hpk, rfl⟩ | ⟨rfl, hpk⟩
 · (
 have HPK := Lib.hid hpk
 clear hpk
 as_aux_lemma => (
 go_wp2_with (first
  | ((with_reducible refine arm_load hrx ?_ 18 info178 Tryz.underlying178 ?_ ?_ ?_); rfl; rfl; exact HSX.out)
  | ((with_reducible refine wpList_build1 178 18 (infoD_four infoD178) rfl _ _ rfl Tryz.underlying144 (by decide) ?_ HSX.out ?_); rfl)
  | (at_builtin; (refine wpList_ext infoD178 (by decide) (by decide) HE3.out HS3.out (by omega) HSX.out HOX.out rfl _ _ 144 rfl Tryz.underlying144 rfl rfl ?_ ?_; (first | rfl | simp); intro v1 w1 he1 hs1)))
 go_roundw
 case rel => (
 refine ⟨k + 1, m + 1, vis2, false, by omega, by go_num, he1, by omega, by simp, HVL.out, hs1, ?_⟩
 rw [HMA.out, HDR.out]
 simp only [marks, HPK.out]
 cases fl <;> rfl)
 case measure => simp [intOf]; omega))
 · (
 have HPK := Lib.hid hpk
 clear hpk
 as_aux_lemma => (
 go_wp2_with fail
 go_roundw
 case rel => (
 refine ⟨k + 1, m, vis2, fl, by omega, by go_num, HE3.out, by omega, HFL.out, by rw [(pick_trues _ _ _ _ HPK.out).2]; exact HVL.out, HS3.out, ?_⟩
 rw [HMA.out, HDR.out]
 simp only [marks, HPK.out])
 case measure => simp [intOf]; omega)))))
 · (
 have hkn : k = n1 := by omega
 have hdk : xs.drop k = [] := List.drop_eq_nil_of_le (by omega)
 have hfin : marks p xs ys (List.replicate ys.length false) = (fl, vis) := by rw [HMA.out, hdk]; simp [marks]
 have HFIN := Lib.hid hfin
 have hds : diffSame p xs ys = (fl && vis.all id) := by unfold diffSame; rw [hfin]
 have HDS := Lib.hid hds
 have e1 := eq0b HFL.out
 clear hdk hfin hds HMA HEX HFIN
 subst hkn
 as_aux_lemma => (
 go_upto_region 20 with fail
 go_loopw [11, 15, 61] (fun s11 _ s61 wr => D4 vis n2 w 178 18 s11 s61 wr) (fun _ _ i _ => n2 - (intOf i).toNat)
 case atStart => exact ⟨0, 0, Nat.zero_le _, rfl, ⟨[], World.ownsRow_nil _ _ _ _⟩, Nat.le_refl _, by simp, HSE.out⟩
 case round => (
 obtain ⟨j, m2, hj, rfl, hext, hm2, hiff, hseen⟩ := hrel.ex
 obtain ⟨wp, rfl⟩ : ∃ wo : World, wo = wr := ⟨_, rfl⟩
 obtain ⟨fA, fc2, rfl⟩ := hext.slice
 have HE4 := Lib.hid hext
 have HS4 := Lib.hid hseen
 have HIF := Lib.hid hiff
 clear hext hseen hiff hrel
 by_cases hlt2 : j < n2
 · (
 obtain ⟨bb, ob, r, rfl, hltb, hy, _, cb⟩ := (H2.out.below HS4.out.bel).at_ hlt2
 rw [List.getElem?_map, Option.map_eq_some_iff] at hy
 obtain ⟨y, hy, rfl⟩ := hy
 obtain ⟨bv, hbv⟩ : ∃ bv, vis[j]? = some bv := ⟨vis[j]'(by have := HVL.out; omega), List.getElem?_eq_getElem _⟩
 have hcv := HS4.out.cell hbv
 have htk : (vis.take (j + 1)).all id = ((vis.take j).all id && bv) := by
  obtain ⟨hjl, rfl⟩ := List.getElem?_eq_some_iff.1 hbv
  rw [List.take_succ_eq_append_getElem hjl, List.all_append]
  simp
 have HTK := Lib.hid htk
 have j0 : (0 : Int) ≤ (j : Int) := by omega
 have j1 : (j : Int) < (n2 : Int) := by omega
 obtain ⟨cx, hcx⟩ : ∃ cx, cx = (enc y).toArray := ⟨_, rfl⟩
 have sx : cx.size = 18 := by rw [hcx]; simpa using henc y
 have ox : ∀ u ∈ cx.toList, u.oneCell' = true := by rw [hcx]; exact hone y
 have hrx : wp.rangeAt bb (ob + j * 18) cx.toList := by rw [hcx]; exact cb
 have HSX := Lib.hid sx
 have HOX := Lib.hid ox
 clear hy hbv htk hcx sx ox cb
 cases bv
 case true => (
 as_aux_lemma => (
 go_wp2_with fail
 go_roundw
 case rel => exact ⟨j + 1, m2, by omega, by go_num, HE4.out, by omega, by rw [HTK.out, Bool.and_true]; exact HIF.out, HS4.out⟩
 case measure => simp [intOf]; omega))
 case false => (
 as_aux_lemma => (
 go_wp2_with (first
  | ((with_reducible refine arm_load hrx ?_ 18 info178 Tryz.underlying178 ?_ ?_ ?_); rfl; rfl; exact HSX.out)
  | ((with_reducible refine wpList_build1 178 18 (infoD_four infoD178) rfl _ _ rfl Tryz.underlying144 (by decide) ?_ HSX.out ?_); rfl)
  | (at_builtin; (refine wpList_ext infoD178 (by decide) (by decide) HE4.out HS4.out (by omega) HSX.out HOX.out rfl _ _ 144 rfl Tryz.underlying144 rfl rfl ?_ ?_; (first | rfl | simp); intro v1 w1 he1 hs1)))
 go_roundw
 case rel => exact ⟨j + 1, m2 + 1, by omega, by go_num, he1, by omega, by rw [HTK.out, Bool.and_false]; simp, hs1⟩
 case measure => simp [intOf]; omega)))
 · (
 have hjn : j = n2 := by omega
 have hta : vis.take j = vis := List.take_of_length_le (by have := HVL.out; omega)
 have hif := HIF.out
 rw [hta] at hif
 have e2 := eq0b hif
 clear hta hif
 generalize vis.all id = va at e2 HDS
 have f9 : ¬ (j : Int) < (n2 : Int) := by omega
 clear hjn HE4 HIF
 as_aux_lemma => (
 cases fl <;> cases va
 all_goals
  go_wp2_with fail
  go_ret
  exact ⟨(congrArg (fun b => Ending.returned (dres b)) HDS.out).symm, HS4.out.bel⟩)))))))
set_option maxRecDepth 100000 in
set_option maxHeartbeats 4000000 in
theorem d122_124 {α : Type} (enc : α → List Value) (henc : ∀ x, (enc x).length = 18) (hone : ∀ x, ∀ u ∈ enc x, u.oneCell' = true) (p : α → α → Bool) (A1 A2 : Option Addr) (n1 n2 k1 k2 bc : Nat) (xs ys : List α) (fc : Value) (w : World)
 (h1 : Rd w w.heap.size 18 A1 n1 k1 (xs.map enc)) (h2 : Rd w w.heap.size 18 A2 n2 k2 (ys.map enc)) (hn1 : n1 ≤ 1000) (hn2 : n2 ≤ 1000)
 (hc : ∀ x y, x ∈ xs → y ∈ ys → ∀ W, Below w.heap.size w W → Calls Tryz.prog 124 #[.agg (enc x).toArray, .agg (enc y).toArray, .pointer (some ⟨bc, 0, none⟩)] W fun e w' => ∃ A n c, e = .returned (.slice A n c) ∧ Below W.heap.size W w' ∧ (n = 0 ↔ p x y = true)) :
 Calls Tryz.prog 122 #[.slice A1 n1 k1, .slice A2 n2 k2, fc, .func (.func 124) #[] #[.pointer (some ⟨bc, 0, none⟩)]] w fun e w' => e = .returned (dres (diffSame p xs ys)) ∧ Below w.heap.size w w' := by
 have l1 := h1.numlen
 have l2 := h2.numlen
 have H1 := Lib.hid h1
 have H2 := Lib.hid h2
 have HC := Lib.hid hc
 have L1 := Lib.hid l1
 have L2 := Lib.hid l2
 have t1 := h1.cap
 have t2 := h2.cap
 clear h1 h2 hc l1 l2
 obtain ⟨i0, zd, hi, hz0, hz1, hz2, hzc⟩ := infoD167
 have HI := Lib.hid (And.intro hi (And.intro hz0 (And.intro hz1 (And.intro hz2 hzc))))
 clear hi hz0 hz1 hz2 hzc
 have hmk := mk_bools n2 w (by omega)
 obtain ⟨W0, hW0⟩ : ∃ W0, W0 = w.alloc (.cells (visC (List.replicate n2 false)) 4) := ⟨_, rfl⟩
 have hv0 : W0.heap[w.heap.size]? = some (.cells (visC (List.replicate n2 false)) 4 (0, 0)) := by rw [hW0]; exact heap_alloc_new w _
 have hb0 : Below w.heap.size w W0 := ba hW0
 have hs0 : W0.heap.size = w.heap.size + 1 := by rw [hW0]; simp
 have HV0 := Lib.hid hv0
 have HB0 := Lib.hid hb0
 have HS0 := Lib.hid hs0
 have HW0 := Lib.hid hW0
 clear hW0 hv0 hb0 hs0
 go_enter Tryz.func122, Tryz.ntmps122
 go_upto_region 5 with fail
 rw [← HW0.out]
 clear hmk HW0
 as_aux_lemma => (
 have hl1 := L1.out
 have hl2 := L2.out
 go_loopw [10, 12, 13, 14, 21] (fun s10 _ _ _ s21 wr => D1 p xs ys w 167 18 s10 s21 wr) (fun _ _ _ _ s21 _ => n1 - (intOf s21).toNat)
 case atStart => exact ⟨0, 0, _, true, Nat.zero_le _, rfl, ⟨[], World.ownsRow_nil _ _ _ _⟩, Nat.le_refl _, by simp, List.length_replicate, ⟨by rw [hl2]; exact HV0.out, HB0.out⟩, by simp⟩
 case round => (
 obtain ⟨k, m, vis, fl, hk, rfl, hext, hmk, hfl, hvl, hseen, hmarks⟩ := hrel.ex
 obtain ⟨wo, rfl⟩ : ∃ wo : World, wo = wr := ⟨_, rfl⟩
 obtain ⟨eA, ec, rfl⟩ := hext.slice
 have HEX := Lib.hid hext
 have HSE := Lib.hid hseen
 have HMA := Lib.hid hmarks
 have HFL := Lib.hid hfl
 have HVL := Lib.hid hvl
 clear hext hseen hmarks hfl hvl hrel
 by_cases hlt : k < n1
 · (
 obtain ⟨ba, oa, r, rfl, hlta, hx, _, ca⟩ := (H1.out.below HSE.out.bel).at_ hlt
 rw [List.getElem?_map, Option.map_eq_some_iff] at hx
 obtain ⟨x, hx, rfl⟩ := hx
 have hxm := List.mem_of_getElem? hx
 have hdrop : xs.drop k = x :: xs.drop (k + 1) := drop_of_get hx
 have HDR := Lib.hid hdrop
 have HXM := Lib.hid hxm
 have hca : ∀ W, Below w.heap.size w W → W.rangeAt ba (oa + k * 18) (enc x) := fun W hW => by
  obtain ⟨ba', oa', r', e, _, hx', _, ca'⟩ := (H1.out.below hW).at_ hlt
  injection e with e
  injection e with e1 e2 _
  subst e1 e2
  rw [List.getElem?_map, hx] at hx'
  injection hx' with hx'
  subst hx'
  exact ca'
 have HCA := Lib.hid hca
 have i0 : (0 : Int) ≤ (k : Int) := by omega
 have i1 : (k : Int) < (n1 : Int) := by omega
 clear hx hxm hdrop ca hca
 as_aux_lemma => (
 go_upto_region 8 with fail
 go_upto_block 2 with fail
 go_cut [13, 14] from 24 to 48 (fun s13 s14 wx => D3 (p x) ys vis w 167 18 m (.slice eA m ec) s13 wx)
 case first => (
 as_aux_lemma => (
 go_wp2_with fail
 go_loopw [13, 14, 26] (fun s13 _ s26 wr => D2 (p x) ys vis w 167 18 m (.slice eA m ec) s13 s26 wr) (fun _ _ s26 _ => n2 - (intOf s26).toNat)
 case atStart => exact ⟨0, Nat.zero_le _, rfl, rfl, HEX.out, HSE.out, fun i y h => by omega⟩
 case round => (
 obtain ⟨j, hj, rfl, rfl, hext, hseen, hno⟩ := hrel.ex
 obtain ⟨wp, rfl⟩ : ∃ wo : World, wo = wr := ⟨_, rfl⟩
 have HEX2 := Lib.hid hext
 have HSE2 := Lib.hid hseen
 have HNO := Lib.hid hno
 clear hext hseen hno hrel
 by_cases hlt2 : j < n2
 · (
 obtain ⟨bb, ob, r, rfl, hltb, hy, _, cb⟩ := (H2.out.below HSE2.out.bel).at_ hlt2
 rw [List.getElem?_map, Option.map_eq_some_iff] at hy
 obtain ⟨y, hy, rfl⟩ := hy
 have hym := List.mem_of_getElem? hy
 obtain ⟨bv, hbv⟩ : ∃ bv, vis[j]? = some bv := ⟨vis[j]'(by have := HVL.out; omega), List.getElem?_eq_getElem _⟩
 have hcv := HSE2.out.cell hbv
 have j0 : (0 : Int) ≤ (j : Int) := by omega
 have j1 : (j : Int) < (n2 : Int) := by omega
 have HY := Lib.hid hy
 have HYM := Lib.hid hym
 have HBV := Lib.hid hbv
 clear hy hym hbv
 cases bv
 case true => (
 as_aux_lemma => (
 go_wp2_with fail
 go_roundw
 case rel => (
 refine ⟨j + 1, by omega, by go_num, rfl, HEX2.out, HSE2.out, fun i z hi hz => ?_⟩
 by_cases hij : i = j
 · subst hij; exact .inl HBV.out
 · exact HNO.out i z (by omega) hz)
 case measure => simp [intOf]; omega))
 case false => (
 have HRX := Lib.hid (HCA.out wp HSE2.out.bel)
 have HRY := Lib.hid cb
 have HBK : Hid (Below w.heap.size w wp.drew) := Lib.hid (below_drew HSE2.out.bel)
 clear cb hcv
 have hcv := HSE2.out.cell HBV.out
 as_aux_lemma => (
 go_upto_region 12 with fail
 go_cut [26, 44] from 26 to 48 (fun s26 s44 wx => s26 = .int .i64 j ∧ s44 = .bool (p x y) ∧ Below wp.heap.size wp wx)
 case first => (
 as_aux_lemma => (
 have hxm := HXM.out
 have hym := HYM.out
 refine wp_region_held_drew (S := fun w' => w'.rangeAt ba (oa + k * 18) (enc x) ∧ w'.rangeAt bb (ob + j * 18) (enc y)) (by kernel_rfl) ⟨HRX.out, HRY.out⟩ (fun hHeld => ?_)
 refine tk 0 33 (v := .func (.func 124) #[] #[.pointer (some ⟨bc, 0, none⟩)]) (a' := ?_) rfl rfl ?_ ?_ rfl ?_
 rotate_left 1
 · intro w2 hSw; go_simp
 · simp only [sI, s0, sS]; exact rfl
 refine tk 1 34 (v := .slice (some ⟨ba, oa, none⟩) n1 k1) (a' := ?_) rfl rfl ?_ ?_ rfl ?_
 rotate_left 1
 · intro w2 hSw; go_simp
 · simp only [sI, s0, sS]; exact rfl
 refine tk 2 35 (v := .int .i64 (k : Int)) (a' := ?_) rfl rfl ?_ ?_ rfl ?_
 rotate_left 1
 · intro w2 hSw; go_simp
 · simp only [sI, s0, sS]; exact rfl
 refine tk 3 36 (v := .pointer (some ⟨ba, oa + k * 18, none⟩)) (a' := ?_) rfl rfl ?_ ?_ rfl ?_
 rotate_left 1
 · intro w2 hSw; go_simp <;> (try (intro h; omega))
 · simp only [sI, s0, sS]; exact rfl
 refine tk 4 37 (v := .agg (enc x).toArray) (a' := ?_) rfl rfl ?_ ?_ rfl ?_
 rotate_left 1
 · intro w2 hSw; exact run_load_at rfl hSw.1 rfl Tryz.underlying167 rfl (by rw [henc]; exact info167)
 · simp only [sI, s0, sS]; exact rfl
 refine tk 5 38 (v := .slice (some ⟨bb, ob, none⟩) n2 k2) (a' := ?_) rfl rfl ?_ ?_ rfl ?_
 rotate_left 1
 · intro w2 hSw; go_simp
 · simp only [sI, s0, sS]; exact rfl
 refine tk 6 39 (v := .int .i64 (j : Int)) (a' := ?_) rfl rfl ?_ ?_ rfl ?_
 rotate_left 1
 · intro w2 hSw; go_simp
 · simp only [sI, s0, sS]; exact rfl
 refine tk 7 40 (v := .pointer (some ⟨bb, ob + j * 18, none⟩)) (a' := ?_) rfl rfl ?_ ?_ rfl ?_
 rotate_left 1
 · intro w2 hSw; go_simp <;> (try (intro h; omega))
 · simp only [sI, s0, sS]; exact rfl
 refine tk 8 41 (v := .agg (enc y).toArray) (a' := ?_) rfl rfl ?_ ?_ rfl ?_
 rotate_left 1
 · intro w2 hSw; exact run_load_at rfl hSw.2 rfl Tryz.underlying167 rfl (by rw [henc]; exact info167)
 · simp only [sI, s0, sS]; exact rfl
 refine wpAnyH_ready (rs := [9]) (by kernel_rfl) (by simp) ?_
 refine ar1 rfl (fun K hK => ?_)
 go_simp
 refine (HC.out x y hxm hym _ HBK.out).mono ?_
 rintro e w9 ⟨rA, rn, rc, rfl, hb9, hiff⟩
 try dsimp only
 refine hK.out _ _ ⟨fun t u ht => cellk (hHeld.1 t u ht) hb9, fun t u ht => cellk (hHeld.2 t u ht) hb9⟩ (fun hHeld => ?_)
 clear hK K
 refine tk 10 43 (v := .int .i64 (rn : Int)) (a' := ?_) rfl rfl ?_ ?_ rfl ?_
 rotate_left 1
 · intro w2 hSw; go_simp
 · simp only [sI, s0, sS]; exact rfl
 refine tk 11 44 (v := .bool (p x y)) (a' := ?_) rfl rfl ?_ ?_ rfl ?_
 rotate_left 1
 · intro w2 hSw; go_simp; exact eq0b hiff
 · simp only [sI, s0, sS]; exact rfl
 refine wpAnyH_done (by kernel_rfl) ?_ _
 go_wp2_with fail
 go_meet
 exact ⟨rfl, rfl, below_then (below_drew (Below.refl _ _)) (Nat.le_refl _) hb9⟩))
 case rest => (
 obtain ⟨rfl, rfl, hbx⟩ := hcut
 have hs9 := HSE2.out.below hbx
 have he9 := HEX2.out.below hbx
 have hcv9 := hs9.cell HBV.out
 have hfz9 := frozen_blk hs9.blk
 have HS9 := Lib.hid hs9
 have HE9 := Lib.hid he9
 generalize hpb : p x y = pb
 have HPB := Lib.hid hpb
 clear hs9 he9 hcv hbx hpb
 as_aux_lemma => (
 cases pb
 case true => (
 go_wp2_with fail
 go_meet
 exact ⟨⟨vis.set j true, .inr ⟨rfl, pick_some_of HY.out HBV.out HPB.out (fun i z hi hz => HNO.out i z hi hz)⟩, HE9.out.set j _, HS9.out.set j⟩⟩)
 case false => (
 go_wp2_with fail
 go_roundw
 case rel => (
 refine ⟨j + 1, by omega, by go_num, rfl, HE9.out, HS9.out, fun i z hi hz => ?_⟩
 by_cases hij : i = j
 · (
 subst hij
 have e := HY.out
 rw [hz] at e
 injection e with e
 subst e
 exact .inr HPB.out)
 · exact HNO.out i z (by omega) hz)
 case measure => simp [intOf]; omega))))))
 · as_aux_lemma => (
 go_wp2_with fail
 go_meet
 exact ⟨⟨vis, .inl ⟨rfl, pick_none_of (fun i z hz => HNO.out i z (by have := (List.getElem?_eq_some_iff.1 hz).1; omega) hz), rfl⟩, HEX2.out, HSE2.out⟩⟩))))
 case rest => (
 obtain ⟨vis2, hd3, hext2, hseen2⟩ := hcut.ex
 obtain ⟨wq, rfl⟩ : ∃ wo : World, wo = wc := ⟨_, rfl⟩
 have HE3 := Lib.hid hext2
 have HS3 := Lib.hid hseen2
 have HRX := Lib.hid (HCA.out wq hseen2.bel)
 obtain ⟨cx, hcx⟩ : ∃ cx, cx = (enc x).toArray := ⟨_, rfl⟩
 have sx : cx.size = 18 := by rw [hcx]; simpa using henc x
 have ox : ∀ u ∈ cx.toList, u.oneCell' = true := by rw [hcx]; exact hone x
 have hrx : wq.rangeAt ba (oa + k * 18) cx.toList := by rw [hcx]; exact HRX.out
 have HSX := Lib.hid sx
 have HOX := Lib.hid ox
 clear hcut hext2 hseen2 hcx sx ox
 rcases hd3 with ⟨rfl, hpk, rfl⟩ | ⟨rfl, hpk⟩
 · (
 have HPK := Lib.hid hpk
 clear hpk
 as_aux_lemma => (
 go_wp2_with (first
  | ((with_reducible refine arm_load hrx ?_ 18 info167 Tryz.underlying167 ?_ ?_ ?_); rfl; rfl; exact HSX.out)
  | ((with_reducible refine wpList_build1 167 18 (infoD_four infoD167) rfl _ _ rfl Tryz.underlying148 (by decide) ?_ HSX.out ?_); rfl)
  | (at_builtin; (refine wpList_ext infoD167 (by decide) (by decide) HE3.out HS3.out (by omega) HSX.out HOX.out rfl _ _ 148 rfl Tryz.underlying148 rfl rfl ?_ ?_; (first | rfl | simp); intro v1 w1 he1 hs1)))
 go_roundw
 case rel => (
 refine ⟨k + 1, m + 1, vis2, false, by omega, by go_num, he1, by omega, by simp, HVL.out, hs1, ?_⟩
 rw [HMA.out, HDR.out]
 simp only [marks, HPK.out]
 cases fl <;> rfl)
 case measure => simp [intOf]; omega))
 · (
 have HPK := Lib.hid hpk
 clear hpk
 as_aux_lemma => (
 go_wp2_with fail
 go_roundw
 case rel => (
 refine ⟨k + 1, m, vis2, fl, by omega, by go_num, HE3.out, by omega, HFL.out, by rw [(pick_trues _ _ _ _ HPK.out).2]; exact HVL.out, HS3.out, ?_⟩
 rw [HMA.out, HDR.out]
 simp only [marks, HPK.out])
 case measure => simp [intOf]; omega)))))
 · (
 have hkn : k = n1 := by omega
 have hdk : xs.drop k = [] := List.drop_eq_nil_of_le (by omega)
 have hfin : marks p xs ys (List.replicate ys.length false) = (fl, vis) := by rw [HMA.out, hdk]; simp [marks]
 have HFIN := Lib.hid hfin
 have hds : diffSame p xs ys = (fl && vis.all id) := by unfold diffSame; rw [hfin]
 have HDS := Lib.hid hds
 have e1 := eq0b HFL.out
 clear hdk hfin hds HMA HEX HFIN
 subst hkn
 as_aux_lemma => (
 go_upto_region 20 with fail
 go_loopw [11, 15, 61] (fun s11 _ s61 wr => D4 vis n2 w 167 18 s11 s61 wr) (fun _ _ i _ => n2 - (intOf i).toNat)
 case atStart => exact ⟨0, 0, Nat.zero_le _, rfl, ⟨[], World.ownsRow_nil _ _ _ _⟩, Nat.le_refl _, by simp, HSE.out⟩
 case round => (
 obtain ⟨j, m2, hj, rfl, hext, hm2, hiff, hseen⟩ := hrel.ex
 obtain ⟨wp, rfl⟩ : ∃ wo : World, wo = wr := ⟨_, rfl⟩
 obtain ⟨fA, fc2, rfl⟩ := hext.slice
 have HE4 := Lib.hid hext
 have HS4 := Lib.hid hseen
 have HIF := Lib.hid hiff
 clear hext hseen hiff hrel
 by_cases hlt2 : j < n2
 · (
 obtain ⟨bb, ob, r, rfl, hltb, hy, _, cb⟩ := (H2.out.below HS4.out.bel).at_ hlt2
 rw [List.getElem?_map, Option.map_eq_some_iff] at hy
 obtain ⟨y, hy, rfl⟩ := hy
 obtain ⟨bv, hbv⟩ : ∃ bv, vis[j]? = some bv := ⟨vis[j]'(by have := HVL.out; omega), List.getElem?_eq_getElem _⟩
 have hcv := HS4.out.cell hbv
 have htk : (vis.take (j + 1)).all id = ((vis.take j).all id && bv) := by
  obtain ⟨hjl, rfl⟩ := List.getElem?_eq_some_iff.1 hbv
  rw [List.take_succ_eq_append_getElem hjl, List.all_append]
  simp
 have HTK := Lib.hid htk
 have j0 : (0 : Int) ≤ (j : Int) := by omega
 have j1 : (j : Int) < (n2 : Int) := by omega
 obtain ⟨cx, hcx⟩ : ∃ cx, cx = (enc y).toArray := ⟨_, rfl⟩
 have sx : cx.size = 18 := by rw [hcx]; simpa using henc y
 have ox : ∀ u ∈ cx.toList, u.oneCell' = true := by rw [hcx]; exact hone y
 have hrx : wp.rangeAt bb (ob + j * 18) cx.toList := by rw [hcx]; exact cb
 have HSX := Lib.hid sx
 have HOX := Lib.hid ox
 clear hy hbv htk hcx sx ox cb
 cases bv
 case true => (
 as_aux_lemma => (
 go_wp2_with fail
 go_roundw
 case rel => exact ⟨j + 1, m2, by omega, by go_num, HE4.out, by omega, by rw [HTK.out, Bool.and_true]; exact HIF.out, HS4.out⟩
 case measure => simp [intOf]; omega))
 case false => (
 as_aux_lemma => (
 go_wp2_with (first
  | ((with_reducible refine arm_load hrx ?_ 18 info167 Tryz.underlying167 ?_ ?_ ?_); rfl; rfl; exact HSX.out)
  | ((with_reducible refine wpList_build1 167 18 (infoD_four infoD167) rfl _ _ rfl Tryz.underlying148 (by decide) ?_ HSX.out ?_); rfl)
  | (at_builtin; (refine wpList_ext infoD167 (by decide) (by decide) HE4.out HS4.out (by omega) HSX.out HOX.out rfl _ _ 148 rfl Tryz.underlying148 rfl rfl ?_ ?_; (first | rfl | simp); intro v1 w1 he1 hs1)))
 go_roundw
 case rel => exact ⟨j + 1, m2 + 1, by omega, by go_num, he1, by omega, by rw [HTK.out, Bool.and_false]; simp, hs1⟩
 case measure => simp [intOf]; omega)))
 · (
 have hjn : j = n2 := by omega
 have hta : vis.take j = vis := List.take_of_length_le (by have := HVL.out; omega)
 have hif := HIF.out
 rw [hta] at hif
 have e2 := eq0b hif
 clear hta hif
 generalize vis.all id = va at e2 HDS
 have f9 : ¬ (j : Int) < (n2 : Int) := by omega
 clear hjn HE4 HIF
 as_aux_lemma => (
 cases fl <;> cases va
 all_goals
  go_wp2_with fail
  go_ret
  exact ⟨(congrArg (fun b => Ending.returned (dres b)) HDS.out).symm, HS4.out.bel⟩)))))))
end Go.Proofs.YtlpddogcnpokfaaGreatDoor
