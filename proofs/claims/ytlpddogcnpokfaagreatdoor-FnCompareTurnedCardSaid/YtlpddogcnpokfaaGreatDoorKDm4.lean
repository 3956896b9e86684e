/- Contracts of functions of the program, for the comparison of aggregations (part KDm4). -/
import Derived.Test.YtlpddogcnpokfaaGreatDoorKA9
set_option linter.all false
namespace Go.Proofs.YtlpddogcnpokfaaGreatDoor
open Go.RowKit
set_option maxRecDepth 100000 in
set_option maxHeartbeats 4000000 in
theorem c41_4 (fb dl mo : Bool) (A : Option Addr) (n c : Nat) (l : List (Dot × Sl5)) (w : World) (h : DotsR w w.heap.size A n c l) (hok : ∀ x ∈ l, AttrsOk x.1.attrs) (hbs : ∀ x ∈ l, x.1.bounds.length ≤ 900) (hn : n ≤ 900) (tp : Int) (htp : tp = if dl then 2 else 1) :
 Calls Tryz.prog 41 #[.agg #[.int .u8 4, .bool fb, .bool dl, .bool mo, .slice A n c], .func (.func 42) #[] #[]] w fun e w' => ∃ (A' : Option Addr) (c' : Nat) (pts : List (Dot × Sl5)), e = .returned (.iface 138 (.agg #[.slice A' n c', .int .u8 tp])) ∧ pts.map (·.1) = l.map (fun x => mkHp false x.1) ∧ Rd w' w'.heap.size 13 A' n c' (pts.map hpI) ∧ (∀ q ∈ pts, PtR w' w'.heap.size q.1 q.2) ∧ Below w.heap.size w w' := by
 have hlen := h.rd.numlen
 have H := Lib.hid h
 have HOK := Lib.hid hok
 have HBS := Lib.hid hbs
 have HLEN := Lib.hid hlen
 have HTP := Lib.hid htp
 clear h hok hbs hlen htp
 obtain ⟨W0, hW0⟩ : ∃ W0, W0 = w.alloc (.cells #[.int .u8 4, .bool fb, .bool dl, .bool mo, .slice A n c] 30) := ⟨_, rfl⟩
 have hb : Below w.heap.size w W0 := bq hW0
 have hs0 : W0.heap.size = w.heap.size + 1 := by rw [hW0]; simp
 obtain ⟨x6, hx6d⟩ : ∃ x, x = W0.heap.size := ⟨_, rfl⟩
 have y0 : W0.cell? ⟨w.heap.size, 0, none⟩ = some (.int .u8 4) := by rw [hW0]; simp [go_sem]
 have y2 : W0.cell? ⟨w.heap.size, 2, none⟩ = some (.bool dl) := by rw [hW0]; simp [go_sem]
 have y4 : W0.cell? ⟨w.heap.size, 4, none⟩ = some (.slice A n c) := by rw [hW0]; simp [go_sem]
 obtain ⟨W1, hW1⟩ : ∃ W1, W1 = W0.alloc (.cells #[.slice none 0 0, .int .u8 tp] 138) := ⟨_, rfl⟩
 have hb1 : Below W0.heap.size W0 W1 := bq hW1
 have hz6 : W1.heap[x6]? = some (.cells #[.slice none 0 0, .int .u8 tp] 138 (0, 0)) := by rw [hW1, hx6d]; exact heap_alloc_new W0 _
 have y4' := cellk y4 hb1
 have hdm0 : DM w W1 138 175 13 hpI x6 [.int .u8 tp] [] (.slice none 0 0) := ⟨⟨[], rfl, World.ownsRow_nil _ _ _ _, by simp⟩, by rw [hz6], by simp [Value.ownBlock], below_then hb hb.size hb1⟩
 have HDM0 := Lib.hid hdm0
 have HW := Lib.hid hW0
 have HW1 := Lib.hid hW1
 have HX6 := Lib.hid hx6d
 have HS0 := Lib.hid hs0
 have hx6 : w.heap.size ≤ x6 := by omega
 clear hW0 hW1 hb hb1 hz6 hdm0 hx6d hs0
 go_enter Tryz.func41, Tryz.ntmps41
 go_upto_region 2 with fail
 rw [← HW.out]
 go_upto_if 25 with fail
 go_cut [5] from 24 (fun s5 wx => s5 = .int .u8 tp ∧ wx = W0)
 case first => (
 have htp := HTP.out
 cases dl
 all_goals
  simp at htp
  subst htp
  go_wp2_with fail
  go_meet
  exact ⟨rfl, rfl⟩)
 case rest => (
 obtain ⟨rfl, rfl⟩ := hcut
 obtain ⟨W0, rfl⟩ : ∃ W0 : World, W0 = wc := ⟨_, rfl⟩
 as_aux_lemma => (
 go_upto_region 25 with ((with_reducible apply arm_store_new 2 infoA138); rfl; simp; rfl; rfl; rfl; rfl)
 rw [← HW1.out, ← HX6.out]
 try simp only [Act.put]
 go_upto_region 26 with fail
 as_aux_lemma => (
 go_loopw [14, 15, 16, 18, 81] (fun _ _ _ _ i wr => ∃ (k : Nat) (v : Value), k ≤ n ∧ i = .int .i64 k ∧ DM w wr 138 175 13 hpI x6 [.int .u8 tp] ((l.take k).map fun x => mkHp false x.1) v) (fun _ _ _ _ i _ => n - (intOf i).toNat)
 case atStart => exact ⟨0, _, Nat.zero_le _, rfl, HDM0.out⟩
 case round => (
 obtain ⟨k, v, hk, rfl, hdm⟩ := hrel
 obtain ⟨wo, rfl⟩ : ∃ wo : World, wo = wr := ⟨_, rfl⟩
 have hml : ((l.take k).map fun x => mkHp false x.1).length = k := by rw [List.length_map, List.length_take]; have := HLEN.out; omega
 obtain ⟨vA, vc, hv⟩ := hdm.slice
 rw [hml] at hv
 subst hv
 have HDM := Lib.hid hdm
 have HML := Lib.hid hml
 have HOW : Hid (∀ g, (Value.slice vA k vc).ownBlock = some g → w.heap.size ≤ g ∧ g < wo.heap.size) := Lib.hid (by obtain ⟨pts, _, h2, _⟩ := hdm.ex; exact h2.lt)
 have hx6l : x6 < wo.heap.size := (Array.getElem?_eq_some_iff.1 hdm.blk).1
 have hblk := hdm.blk
 have C6 : Hid (wo.cell? ⟨x6, 0, none⟩ = some (.slice vA k vc)) := Lib.hid (blk_cell hblk 0 _ (by simp))
 clear hdm hml
 by_cases hlt : k < n
 · (
 obtain ⟨ba, oa, r, rfl, hlta, hx, _, ca⟩ := (H.out.rd.below HDM.out.bel).at_ hlt
 rw [List.getElem?_map, Option.map_eq_some_iff] at hx
 obtain ⟨⟨d, s⟩, hx, rfl⟩ := hx
 have hxm := List.mem_of_getElem? hx
 have HTK : Hid ((l.take (k + 1)).map (fun x => mkHp false x.1) = ((l.take k).map fun x => mkHp false x.1) ++ [mkHp false d]) := Lib.hid (by
  obtain ⟨hk', he⟩ := List.getElem?_eq_some_iff.1 hx
  rw [List.take_succ_eq_append_getElem hk', List.map_append, he]; rfl)
 have HD : Hid (DotR w w.heap.size d s) := Lib.hid (H.out.all _ hxm)
 have HBN : Hid (d.bounds.length ≤ 900) := Lib.hid (HBS.out _ hxm)
 have HBE : Hid (s.b.n = d.bounds.length) := Lib.hid (by have := HD.out.b.numlen; simpa using this.symm)
 have C36 := Lib.hid fun (W : World) (hW : Below w.heap.size w W) => c36 s.a.A s.a.n s.a.c d.attrs W ((HD.out.a.below hW).more hW.size) (HOK.out _ hxm)
 obtain ⟨D1, hD1⟩ : ∃ D1, d.hasMin = D1 := ⟨_, rfl⟩
 obtain ⟨D2, hD2⟩ : ∃ D2, d.hasMax = D2 := ⟨_, rfl⟩
 have HD1 := Lib.hid hD1
 have HD2 := Lib.hid hD2
 obtain ⟨mn, hmn⟩ : ∃ mn, mn = if D1 then cv false d.min else 0 := ⟨_, rfl⟩
 obtain ⟨mx, hmx⟩ : ∃ mx, mx = if D2 then cv false d.max else 0 := ⟨_, rfl⟩
 have HMN := Lib.hid hmn
 have HMX := Lib.hid hmx
 obtain ⟨vl, hvl⟩ : ∃ vl, vl = valC d s := ⟨_, rfl⟩
 obtain ⟨cx, hcx⟩ : ∃ cx, cx = (vl ++ ([.int .i64 d.start, .int .i64 d.time] : List Value)).toArray := ⟨_, rfl⟩
 have hcd : dotCells d s = vl ++ ([.int .i64 d.start, .int .i64 d.time] : List Value) := by rw [hvl]; rfl
 have sx : cx.size = 18 := by rw [hcx, hvl]; rfl
 have ox : cx.toList.all (·.oneCell') = true := by rw [hcx, hvl]; rfl
 have ca2 : wo.rangeAt ba (oa + k * 18) cx.toList := by rw [hcx, ← hcd]; exact ca
 have HSV : Hid (vl.length = 16) := Lib.hid (by rw [hvl]; rfl)
 have HSV2 : Hid (vl.toArray.size = 16) := Lib.hid (by rw [hvl]; rfl)
 have HOV : Hid (vl.toArray.toList.all (·.oneCell') = true) := Lib.hid (by rw [hvl]; rfl)
 have HVL := Lib.hid hvl
 obtain ⟨x14, hx14d⟩ : ∃ x, x = wo.heap.size := ⟨_, rfl⟩
 obtain ⟨W2, hW2⟩ : ∃ W2, W2 = wo.alloc (.cells cx 63) := ⟨_, rfl⟩
 obtain ⟨x15, hx15d⟩ : ∃ x, x = W2.heap.size := ⟨_, rfl⟩
 obtain ⟨W3, hW3⟩ : ∃ W3, W3 = W2.alloc (.cells vl.toArray 61) := ⟨_, rfl⟩
 have hb2 : Below wo.heap.size wo W2 := bq hW2
 have hb3 : Below W2.heap.size W2 W3 := bq hW3
 have hs2 : W2.heap.size = wo.heap.size + 1 := by rw [hW2]; simp
 have hs3 : W3.heap.size = W2.heap.size + 1 := by rw [hW3]; simp
 have z14' : W2.heap[x14]? = some (.cells cx 63 (0, 0)) := by rw [hx14d, hW2]; exact heap_alloc_new wo _
 have z14a : W2.heap[x14]? = some (.cells (vl ++ ([.int .i64 d.start, .int .i64 d.time] : List Value)).toArray 63 (0, 0)) := by rw [z14', hcx]
 have cav : W2.rangeAt x14 0 vl := range_head z14a
 have z14 : W3.drew.heap[x14]? = some (.cells (vl ++ ([.int .i64 d.start, .int .i64 d.time] : List Value)).toArray 63 (0, 0)) := (hb3.block _ (by omega)).trans z14a
 have z15 : W3.drew.heap[x15]? = some (.cells vl.toArray 61 (0, 0)) := by rw [hx15d, hW3]; exact heap_alloc_new W2 _
 have HB3 : Hid (Below wo.heap.size wo W3.drew) := Lib.hid (below_drew (below_then hb2 hb2.size hb3))
 have HBD : Hid (Below w.heap.size w W3.drew) := Lib.hid (HDM.out.bel.trans (HB3.out.mono HDM.out.bel.size))
 have HSZ : Hid (x14 < W3.drew.heap.size ∧ x15 < W3.drew.heap.size ∧ wo.heap.size ≤ W3.drew.heap.size ∧ (wo.heap.size ≤ x14 ∧ wo.heap.size ≤ x15)) := Lib.hid (by show x14 < W3.heap.size ∧ x15 < W3.heap.size ∧ wo.heap.size ≤ W3.heap.size ∧ _; omega)
 have i0 : (0 : Int) ≤ (k : Int) := by omega
 have i1 : (k : Int) < (n : Int) := by omega
 have HW2 := Lib.hid hW2
 have HW3 := Lib.hid hW3
 have HX14 := Lib.hid hx14d
 have HX15 := Lib.hid hx15d
 clear hx hxm hcx hcd ca hb2 hb3 hW2 hW3 hblk hmn hmx hD1 hD2 hvl hs2 hs3 z14' hx14d hx15d
 go_upto_region 28 with (first
  | ((with_reducible refine arm_load ca2 ?_ 18 info63 Tryz.underlying63 ?_ ?_ ?_); rfl; rfl; exact sx)
  | ((with_reducible apply arm_store_new 18 info63); rfl; simp; rfl; rfl; assumption; assumption))
 rw [← HW2.out]
 rw [← HX14.out]
 try simp only [Act.put]
 as_aux_lemma => (
 go_upto_region 29 with (first
  | ((with_reducible refine arm_load cav ?_ 16 info61 Tryz.underlying61 ?_ ?_ ?_); rfl; rfl; exact HSV.out)
  | ((with_reducible apply arm_store_new 16 info61); rfl; rfl; rfl; rfl; exact HSV2.out; exact HOV.out))
 rw [← HW3.out]
 rw [← HX15.out]
 try simp only [Act.put]
 go_cut [16] from 85 to 142 (fun s16 wx => HB0 wo wx vl.toArray x15 175 (fun s1 => hpC false d s1 s.k (.slice none 0 0) (.int .i64 0) (.bool false) (.int .i64 0) (.bool false)) (sortK d.attrs) s16)
 case first => (
 as_aux_lemma => (
 refine wp_region_held_drew (S := fun w' => w'.heap[x14]? = some (.cells (vl ++ ([.int .i64 d.start, .int .i64 d.time] : List Value)).toArray 63 (0, 0)) ∧ w'.heap[x15]? = some (.cells vl.toArray 61 (0, 0))) (by kernel_rfl) ⟨z14, z15⟩ (fun hHeld => ?_)
 refine tk 0 87 (v := .pointer (some ⟨x15, 0, none⟩)) (a' := ?_) rfl rfl ?_ ?_ rfl ?_
 rotate_left 1
 · intro w2 hSw; go_simp
 · simp only [sI, s0, sS]; exact rfl
 refine tk 1 88 (v := .slice s.a.A s.a.n s.a.c) (a' := ?_) rfl rfl ?_ ?_ rfl ?_
 rotate_left 1
 · intro w2 hSw; have q := blk_cell hSw.2 0 (.slice s.a.A s.a.n s.a.c) (by rw [HVL.out]; rfl); go_simp
 · simp only [sI, s0, sS]; exact rfl
 refine tk 3 90 (v := .pointer (some ⟨x14, 16, none⟩)) (a' := ?_) rfl rfl ?_ ?_ rfl ?_
 rotate_left 1
 · intro w2 hSw; go_simp
 · simp only [sI, s0, sS]; exact rfl
 refine tk 4 91 (v := .int .i64 d.start) (a' := ?_) rfl rfl ?_ ?_ rfl ?_
 rotate_left 1
 · intro w2 hSw; have q := blk_cell hSw.1 16 (.int .i64 d.start) (by rw [HVL.out]; rfl); go_simp
 · simp only [sI, s0, sS]; exact rfl
 refine tk 5 92 (v := .agg #[.int .i64 d.start]) (a' := ?_) rfl rfl ?_ ?_ rfl ?_
 rotate_left 1
 · intro w2 hSw; go_simp
 · simp only [sI, s0, sS]; exact rfl
 refine tk 6 93 (v := .pointer (some ⟨x14, 17, none⟩)) (a' := ?_) rfl rfl ?_ ?_ rfl ?_
 rotate_left 1
 · intro w2 hSw; go_simp
 · simp only [sI, s0, sS]; exact rfl
 refine tk 7 94 (v := .int .i64 d.time) (a' := ?_) rfl rfl ?_ ?_ rfl ?_
 rotate_left 1
 · intro w2 hSw; have q := blk_cell hSw.1 17 (.int .i64 d.time) (by rw [HVL.out]; rfl); go_simp
 · simp only [sI, s0, sS]; exact rfl
 refine tk 8 95 (v := .agg #[.int .i64 d.time]) (a' := ?_) rfl rfl ?_ ?_ rfl ?_
 rotate_left 1
 · intro w2 hSw; go_simp
 · simp only [sI, s0, sS]; exact rfl
 refine tk 9 96 (v := .pointer (some ⟨x15, 2, none⟩)) (a' := ?_) rfl rfl ?_ ?_ rfl ?_
 rotate_left 1
 · intro w2 hSw; go_simp
 · simp only [sI, s0, sS]; exact rfl
 refine tk 10 97 (v := .int .u64 d.count) (a' := ?_) rfl rfl ?_ ?_ rfl ?_
 rotate_left 1
 · intro w2 hSw; have q := blk_cell hSw.2 2 (.int .u64 d.count) (by rw [HVL.out]; rfl); go_simp
 · simp only [sI, s0, sS]; exact rfl
 refine tk 11 98 (v := .pointer (some ⟨x15, 9, none⟩)) (a' := ?_) rfl rfl ?_ ?_ rfl ?_
 rotate_left 1
 · intro w2 hSw; go_simp
 · simp only [sI, s0, sS]; exact rfl
 refine tk 12 99 (v := .slice s.k.A s.k.n s.k.c) (a' := ?_) rfl rfl ?_ ?_ rfl ?_
 rotate_left 1
 · intro w2 hSw; have q := blk_cell hSw.2 9 (.slice s.k.A s.k.n s.k.c) (by rw [HVL.out]; rfl); go_simp
 · simp only [sI, s0, sS]; exact rfl
 refine tk 13 100 (v := .func (.func 42) #[] #[]) (a' := ?_) rfl rfl ?_ ?_ rfl ?_
 rotate_left 1
 · intro w2 hSw; go_simp
 · simp only [sI, s0, sS]; exact rfl
 refine tk 14 101 (v := .pointer (some ⟨x15, 3, none⟩)) (a' := ?_) rfl rfl ?_ ?_ rfl ?_
 rotate_left 1
 · intro w2 hSw; go_simp
 · simp only [sI, s0, sS]; exact rfl
 refine tk 15 102 (v := .int .u64 d.sum) (a' := ?_) rfl rfl ?_ ?_ rfl ?_
 rotate_left 1
 · intro w2 hSw; have q := blk_cell hSw.2 3 (.int .u64 d.sum) (by rw [HVL.out]; rfl); go_simp
 · simp only [sI, s0, sS]; exact rfl
 refine wpAnyH_ready (rs := [2, 18]) (by kernel_rfl) (by simp) ?_
 refine AllReadyH.cons (o := _) rfl (fun K hK => ?_) (AllReadyH.cons (o := _) rfl (fun K hK => ?_) AllReadyH.nil)
 · as_aux_lemma => (
 go_simp
 refine (C36.out _ HBD.out).mono ?_
 rintro e w1 ⟨s1, rfl, hset, hb1⟩
 try dsimp only
 refine hK.out _ _ ⟨(hb1.block _ (Array.getElem?_eq_some_iff.1 hHeld.1).1).trans hHeld.1, (hb1.block _ (Array.getElem?_eq_some_iff.1 hHeld.2).1).trans hHeld.2⟩ (fun hHeld => ?_)
 clear hK K
 try dsimp only [Act.put]
 try simp only [Act.put, sI, s0, sS]
 refine wpAnyH_ready (rs := [16, 18]) (by kernel_rfl) (by simp) ?_
 refine AllReadyH.cons (o := _) rfl (fun K hK => ?_) (AllReadyH.cons (o := _) rfl (fun K hK => ?_) AllReadyH.nil)
 · as_aux_lemma => (
 go_simp
 refine (c42 _ _).mono ?_
 rintro e w4 ⟨rfl, rfl⟩
 try dsimp only
 refine hK.out _ _ hHeld (fun hHeld => ?_)
 clear hK K
 try dsimp only [Act.put]
 try simp only [Act.put, sI, s0, sS]
 refine tk 17 104 (v := .agg (hpC false d s1 s.k (.slice none 0 0) (.int .i64 0) (.bool false) (.int .i64 0) (.bool false)).toArray) (a' := ?_) rfl rfl ?_ ?_ rfl ?_
 rotate_left 1
 · intro w2 hSw; exact exec_build (built175 (hashL (sortK d.attrs)) s1.A s1.n s1.c d.start d.time d.count s.k.A s.k.n s.k.c (wrap64 d.sum)) rfl (by kernel_rfl)
 · simp only [sI, s0, sS]; exact rfl
 refine wpAnyH_ready (rs := [18]) (by kernel_rfl) (by simp) ?_
 refine ar1 rfl (fun K hK => ?_)
 refine step_alloc (.cells #[.int .u64 0, .slice none 0 0, .int .i64 0, .int .i64 0, .int .u64 0, .slice none 0 0, .slice none 0 0, .int .i64 0, .bool false, .int .i64 0, .bool false, .int .i64 0, .slice none 0 0] 175) (fun _ => by kernel_rfl) _ (by kernel_rfl) 16 rfl ?_
 refine hK.out _ _ ⟨(Below.heap_alloc _ _ _ (Array.getElem?_eq_some_iff.1 hHeld.1).1).trans hHeld.1, (Below.heap_alloc _ _ _ (Array.getElem?_eq_some_iff.1 hHeld.2).1).trans hHeld.2⟩ (fun hHeld => ?_)
 clear hK K
 try dsimp only [Act.put]
 try simp only [Act.put, sI, s0, sS]
 refine wpAnyH_ready (rs := [19]) (by kernel_rfl) (by simp) ?_
 refine ar1 rfl (fun K hK => ?_)
 have p9 := (P9.last (zs := #[.int .u64 0, .slice none 0 0, .int .i64 0, .int .i64 0, .int .u64 0, .slice none 0 0, .slice none 0 0, .int .i64 0, .bool false, .int .i64 0, .bool false, .int .i64 0, .slice none 0 0]) (ty := 175) HB3.out HSZ.out hset hb1)
 refine store_whole 175 (.tmp 16) (.tmp 104) rfl rfl 13 rfl rfl p9.z ⟨rfl, rfl⟩ info175 rfl _ (by kernel_rfl) (fun w3 h31 h32 h33 h34 => ?_)
 have h14 := (h32 x14 p9.a.2.2.1).trans hHeld.1
 have h15 := (h32 x15 p9.a.2.2.2.1).trans hHeld.2
 refine hK.out _ _ ⟨h14, h15⟩ (fun hHeld2 => ?_)
 clear hK K
 refine wpAnyH_done (by kernel_rfl) ?_ _
 go_wp2_with fail
 go_meet
 exact ⟨_, _, s1, rfl, p9.stored h31 h32 h33 h34 h15 rfl⟩)
 · as_aux_lemma => (
 refine step_alloc (.cells #[.int .u64 0, .slice none 0 0, .int .i64 0, .int .i64 0, .int .u64 0, .slice none 0 0, .slice none 0 0, .int .i64 0, .bool false, .int .i64 0, .bool false, .int .i64 0, .slice none 0 0] 175) (fun _ => by kernel_rfl) _ (by kernel_rfl) 16 rfl ?_
 refine hK.out _ _ ⟨(Below.heap_alloc _ _ _ (Array.getElem?_eq_some_iff.1 hHeld.1).1).trans hHeld.1, (Below.heap_alloc _ _ _ (Array.getElem?_eq_some_iff.1 hHeld.2).1).trans hHeld.2⟩ (fun hHeld => ?_)
 clear hK K
 try dsimp only [Act.put]
 try simp only [Act.put, sI, s0, sS]
 refine wpAnyH_ready (rs := [16]) (by kernel_rfl) (by simp) ?_
 refine ar1 rfl (fun K hK => ?_)
 go_simp
 refine (c42 _ _).mono ?_
 rintro e w4 ⟨rfl, rfl⟩
 try dsimp only
 refine hK.out _ _ hHeld (fun hHeld => ?_)
 clear hK K
 try dsimp only [Act.put]
 try simp only [Act.put, sI, s0, sS]
 refine tk 17 104 (v := .agg (hpC false d s1 s.k (.slice none 0 0) (.int .i64 0) (.bool false) (.int .i64 0) (.bool false)).toArray) (a' := ?_) rfl rfl ?_ ?_ rfl ?_
 rotate_left 1
 · intro w2 hSw; exact exec_build (built175 (hashL (sortK d.attrs)) s1.A s1.n s1.c d.start d.time d.count s.k.A s.k.n s.k.c (wrap64 d.sum)) rfl (by kernel_rfl)
 · simp only [sI, s0, sS]; exact rfl
 refine wpAnyH_ready (rs := [19]) (by kernel_rfl) (by simp) ?_
 refine ar1 rfl (fun K hK => ?_)
 have p9 := (P9.last (zs := #[.int .u64 0, .slice none 0 0, .int .i64 0, .int .i64 0, .int .u64 0, .slice none 0 0, .slice none 0 0, .int .i64 0, .bool false, .int .i64 0, .bool false, .int .i64 0, .slice none 0 0]) (ty := 175) HB3.out HSZ.out hset hb1)
 refine store_whole 175 (.tmp 16) (.tmp 104) rfl rfl 13 rfl rfl p9.z ⟨rfl, rfl⟩ info175 rfl _ (by kernel_rfl) (fun w3 h31 h32 h33 h34 => ?_)
 have h14 := (h32 x14 p9.a.2.2.1).trans hHeld.1
 have h15 := (h32 x15 p9.a.2.2.2.1).trans hHeld.2
 refine hK.out _ _ ⟨h14, h15⟩ (fun hHeld2 => ?_)
 clear hK K
 refine wpAnyH_done (by kernel_rfl) ?_ _
 go_wp2_with fail
 go_meet
 exact ⟨_, _, s1, rfl, p9.stored h31 h32 h33 h34 h15 rfl⟩))
 · as_aux_lemma => (
 refine step_alloc (.cells #[.int .u64 0, .slice none 0 0, .int .i64 0, .int .i64 0, .int .u64 0, .slice none 0 0, .slice none 0 0, .int .i64 0, .bool false, .int .i64 0, .bool false, .int .i64 0, .slice none 0 0] 175) (fun _ => by kernel_rfl) _ (by kernel_rfl) 16 rfl ?_
 refine hK.out _ _ ⟨(Below.heap_alloc _ _ _ (Array.getElem?_eq_some_iff.1 hHeld.1).1).trans hHeld.1, (Below.heap_alloc _ _ _ (Array.getElem?_eq_some_iff.1 hHeld.2).1).trans hHeld.2⟩ (fun hHeld => ?_)
 clear hK K
 try dsimp only [Act.put]
 try simp only [Act.put, sI, s0, sS]
 refine wpAnyH_ready (rs := [2]) (by kernel_rfl) (by simp) ?_
 refine ar1 rfl (fun K hK => ?_)
 go_simp
 refine (C36.out _ (HBD.out.alloc HBD.out.size _)).mono ?_
 rintro e w1 ⟨s1, rfl, hset, hb1⟩
 try dsimp only
 refine hK.out _ _ ⟨(hb1.block _ (Array.getElem?_eq_some_iff.1 hHeld.1).1).trans hHeld.1, (hb1.block _ (Array.getElem?_eq_some_iff.1 hHeld.2).1).trans hHeld.2⟩ (fun hHeld => ?_)
 clear hK K
 try dsimp only [Act.put]
 try simp only [Act.put, sI, s0, sS]
 refine wpAnyH_ready (rs := [16]) (by kernel_rfl) (by simp) ?_
 refine ar1 rfl (fun K hK => ?_)
 go_simp
 refine (c42 _ _).mono ?_
 rintro e w4 ⟨rfl, rfl⟩
 try dsimp only
 refine hK.out _ _ hHeld (fun hHeld => ?_)
 clear hK K
 try dsimp only [Act.put]
 try simp only [Act.put, sI, s0, sS]
 refine tk 17 104 (v := .agg (hpC false d s1 s.k (.slice none 0 0) (.int .i64 0) (.bool false) (.int .i64 0) (.bool false)).toArray) (a' := ?_) rfl rfl ?_ ?_ rfl ?_
 rotate_left 1
 · intro w2 hSw; exact exec_build (built175 (hashL (sortK d.attrs)) s1.A s1.n s1.c d.start d.time d.count s.k.A s.k.n s.k.c (wrap64 d.sum)) rfl (by kernel_rfl)
 · simp only [sI, s0, sS]; exact rfl
 refine wpAnyH_ready (rs := [19]) (by kernel_rfl) (by simp) ?_
 refine ar1 rfl (fun K hK => ?_)
 have p9 := (P9.first HB3.out HSZ.out hset hb1)
 refine store_whole 175 (.tmp 16) (.tmp 104) rfl rfl 13 rfl rfl p9.z ⟨rfl, rfl⟩ info175 rfl _ (by kernel_rfl) (fun w3 h31 h32 h33 h34 => ?_)
 have h14 := (h32 x14 p9.a.2.2.1).trans hHeld.1
 have h15 := (h32 x15 p9.a.2.2.2.1).trans hHeld.2
 refine hK.out _ _ ⟨h14, h15⟩ (fun hHeld2 => ?_)
 clear hK K
 refine wpAnyH_done (by kernel_rfl) ?_ _
 go_wp2_with fail
 go_meet
 exact ⟨_, _, s1, rfl, p9.stored h31 h32 h33 h34 h15 rfl⟩)))
 case rest => (
 obtain ⟨x16, m, s1, rfl, hR⟩ := hcut.ex
 obtain ⟨W4, rfl⟩ : ∃ W4 : World, W4 = wc := ⟨_, rfl⟩
 have HH := Lib.hid hR
 clear hcut hR z14a cav z14 z15
 as_aux_lemma => (
 have qb := blk_cell HH.out.hb.v15 8 (.slice s.b.A s.b.n s.b.c) (by rw [HVL.out]; rfl)
 go_upto_block 7 with fail
 go_cut [18, 108] from 109 to 142 (fun _ i wx => HBL wo wx vl.toArray x15 x16 m 175 (fun v => hpC false d s1 s.k v (.int .i64 0) (.bool false) (.int .i64 0) (.bool false)) s1 (sortK d.attrs) d.bounds s.b.n i ∧ i = .int .i64 s.b.n)
 case first => (
 as_aux_lemma => (
 go_wp2_with fail
 go_loopw [18, 108] (fun _ i wr => HBL wo wr vl.toArray x15 x16 m 175 (fun v => hpC false d s1 s.k v (.int .i64 0) (.bool false) (.int .i64 0) (.bool false)) s1 (sortK d.attrs) d.bounds s.b.n i) (fun _ i _ => s.b.n - (intOf i).toNat)
 case atStart => exact ⟨0, _, Nat.zero_le _, rfl, HH.out⟩
 case round => (
 obtain ⟨j, v, hj, rfl, hR⟩ := hrel.ex
 obtain ⟨wp, rfl⟩ : ∃ wo : World, wo = wr := ⟨_, rfl⟩
 obtain ⟨bA, bc, rfl⟩ := own_slice hR.row
 have j2 : s.b.n ≤ 900 := by have := HBN.out; have := HBE.out; omega
 by_cases hlt2 : j < s.b.n
 · (
 obtain ⟨bb, ob, r, eA, hltb, hy, _, cb⟩ := (HD.out.b.below (HDM.out.bel.trans (hR.hb.bel.mono HDM.out.bel.size))).at_ hlt2
 rw [List.getElem?_map, Option.map_eq_some_iff] at hy
 obtain ⟨y, hy, rfl⟩ := hy
 have cy : wp.cell? ⟨bb, ob + j, none⟩ = some (.int .u64 y) := by
  have := cb 0 (.int .u64 y) rfl
  simpa using this
 have hRd := hR.below (below_drew (Below.refl _ _))
 have c16 : wp.drew.cell? ⟨x16, 5, none⟩ = some (.slice bA j bc) := hRd.hb.cell 5 _ rfl
 have c16a : (wp.alloc (.cells #[.float .f64 y.toNat] 73)).cell? ⟨x16, 5, none⟩ = some (.slice bA j bc) := (hR.below ((Below.refl _ _).alloc (Nat.le_refl _) _)).hb.cell 5 _ rfl
 have z15 : wp.drew.heap[x15]? = some (.cells vl.toArray 61 (0, 0)) := hRd.hb.v15
 have HTJ : Hid (((d.bounds.take (j + 1)).map encF).flatten = ((d.bounds.take j).map encF).flatten ++ [.float .f64 y.toNat]) := Lib.hid (by
  obtain ⟨hk', he⟩ := List.getElem?_eq_some_iff.1 hy
  rw [List.take_succ_eq_append_getElem hk', List.map_append, he]; simp [encF])
 have j0 : (0 : Int) ≤ (j : Int) := by omega
 have j1 : (j : Int) < (s.b.n : Int) := by omega
 clear hrel hy cb hR
 rw [eA]
 as_aux_lemma => (
 go_upto_region 33 with fail
 as_aux_lemma => (
 refine wp_region_held_drew (S := fun w' => w'.heap[x15]? = some (.cells vl.toArray 61 (0, 0))) (by kernel_rfl) z15 (fun hHeld => ?_)
 refine tk 0 112 (v := .pointer (some ⟨x16, 5, none⟩)) (a' := ?_) rfl rfl ?_ ?_ rfl ?_
 rotate_left 1
 · intro w2 hSw; go_simp
 · simp only [sI, s0, sS]; exact rfl
 refine tk 2 114 (v := .int .u64 y) (a' := ?_) rfl rfl ?_ ?_ rfl ?_
 rotate_left 1
 · intro w2 hSw; go_simp
 · simp only [sI, s0, sS]; exact rfl
 refine tk 3 115 (v := .float .f64 y.toNat) (a' := ?_) rfl rfl ?_ ?_ rfl ?_
 rotate_left 1
 · intro w2 hSw; go_simp; exact c30v _ _
 · simp only [sI, s0, sS]; exact rfl
 refine wpAnyH_ready (rs := [1, 4]) (by kernel_rfl) (by simp) ?_
 refine AllReadyH.cons (o := _) rfl (fun K hK => ?_) (AllReadyH.cons (o := _) rfl (fun K hK => ?_) AllReadyH.nil)
 · as_aux_lemma => (
 go_simp
 refine hK.out _ _ hHeld (fun hHeld => ?_)
 clear hK K
 try dsimp only [Act.put]
 try simp only [Act.put, sI, s0, sS]
 refine wpAnyH_ready (rs := [4]) (by kernel_rfl) (by simp) ?_
 refine ar1 rfl (fun K hK => ?_)
 refine step_buildf 73 158 _ rfl Tryz.underlying158 infoD73 (y := .float .f64 y.toNat) rfl rfl _ (by kernel_rfl) 116 rfl ?_
 refine hK.out _ _ ((Below.heap_alloc _ _ _ (Array.getElem?_eq_some_iff.1 hHeld).1).trans hHeld) (fun hHeld => ?_)
 clear hK K
 have c16 : (wp.drew.alloc (.cells #[.float .f64 y.toNat] 73)).cell? ⟨x16, 5, none⟩ = some (.slice bA j bc) := cellk c16 ((Below.refl _ _).alloc (Nat.le_refl _) _)
 try dsimp only [Act.put]
 try simp only [Act.put, sI, s0, sS]
 refine wpAnyH_ready (rs := [5]) (by kernel_rfl) (by simp) ?_
 refine ar1 rfl (fun K hK => ?_)
 refine wpIf _ (by kernel_rfl) ?_
 refine wp_hb_app infoD73 hRd.hb hRd.row (by have := HBN.out; omega) (y := .float .f64 (y.toNat)) rfl _ _ 158 rfl Tryz.underlying158 rfl rfl rfl 117 rfl ?_
 intro g cap w3 hH3 hrow3
 refine hK.out _ _ hH3.v15 (fun hHeld => ?_)
 clear hK K
 try dsimp only [Act.put]
 try simp only [Act.put, sI, s0, sS]
 refine tk 6 118 (v := .pointer (some ⟨x16, 5, none⟩)) (a' := ?_) rfl rfl ?_ ?_ rfl ?_
 rotate_left 1
 · intro w2 hSw; go_simp
 · simp only [sI, s0, sS]; exact rfl
 refine wpAnyH_ready (rs := [7]) (by kernel_rfl) (by simp) ?_
 refine ar1 rfl (fun K hK => ?_)
 refine step_store1 158 (.tmp 118) (.tmp 117) rfl rfl rfl rfl infoS158 (hH3.cell 5 _ rfl) (hH3.frozen 5) _ (by kernel_rfl) ?_
 refine hK.out _ _ (hH3.put 5 _).v15 (fun hHeld2 => ?_)
 clear hK K
 refine wpAnyH_done (by kernel_rfl) ?_ _
 go_wp2_with fail
 go_roundw
 case rel => exact ⟨j + 1, _, by omega, by go_num, hH3.put 5 _, by rw [HTJ.out]; exact hH3.row 5 _ hrow3⟩
 case measure => simp [intOf]; omega)
 · as_aux_lemma => (
 refine step_buildf 73 158 _ rfl Tryz.underlying158 infoD73 (y := .float .f64 y.toNat) rfl rfl _ (by kernel_rfl) 116 rfl ?_
 refine hK.out _ _ ((Below.heap_alloc _ _ _ (Array.getElem?_eq_some_iff.1 hHeld).1).trans hHeld) (fun hHeld => ?_)
 clear hK K
 have c16 : (wp.drew.alloc (.cells #[.float .f64 y.toNat] 73)).cell? ⟨x16, 5, none⟩ = some (.slice bA j bc) := cellk c16 ((Below.refl _ _).alloc (Nat.le_refl _) _)
 try dsimp only [Act.put]
 try simp only [Act.put, sI, s0, sS]
 refine wpAnyH_ready (rs := [1]) (by kernel_rfl) (by simp) ?_
 refine ar1 rfl (fun K hK => ?_)
 go_simp
 refine hK.out _ _ hHeld (fun hHeld => ?_)
 clear hK K
 try dsimp only [Act.put]
 try simp only [Act.put, sI, s0, sS]
 refine wpAnyH_ready (rs := [5]) (by kernel_rfl) (by simp) ?_
 refine ar1 rfl (fun K hK => ?_)
 refine wpIf _ (by kernel_rfl) ?_
 refine wp_hb_app infoD73 hRd.hb hRd.row (by have := HBN.out; omega) (y := .float .f64 (y.toNat)) rfl _ _ 158 rfl Tryz.underlying158 rfl rfl rfl 117 rfl ?_
 intro g cap w3 hH3 hrow3
 refine hK.out _ _ hH3.v15 (fun hHeld => ?_)
 clear hK K
 try dsimp only [Act.put]
 try simp only [Act.put, sI, s0, sS]
 refine tk 6 118 (v := .pointer (some ⟨x16, 5, none⟩)) (a' := ?_) rfl rfl ?_ ?_ rfl ?_
 rotate_left 1
 · intro w2 hSw; go_simp
 · simp only [sI, s0, sS]; exact rfl
 refine wpAnyH_ready (rs := [7]) (by kernel_rfl) (by simp) ?_
 refine ar1 rfl (fun K hK => ?_)
 refine step_store1 158 (.tmp 118) (.tmp 117) rfl rfl rfl rfl infoS158 (hH3.cell 5 _ rfl) (hH3.frozen 5) _ (by kernel_rfl) ?_
 refine hK.out _ _ (hH3.put 5 _).v15 (fun hHeld2 => ?_)
 clear hK K
 refine wpAnyH_done (by kernel_rfl) ?_ _
 go_wp2_with fail
 go_roundw
 case rel => exact ⟨j + 1, _, by omega, by go_num, hH3.put 5 _, by rw [HTJ.out]; exact hH3.row 5 _ hrow3⟩
 case measure => simp [intOf]; omega))))
 · (
 have hjn : j = s.b.n := by omega
 subst hjn
 have f9 : ¬ (s.b.n : Int) < (s.b.n : Int) := by omega
 as_aux_lemma => (
 go_wp2_with fail
 go_meet
 exact ⟨hrel, rfl⟩)))))
 case rest => (
 obtain ⟨hl, rfl⟩ := hcut
 obtain ⟨j, v, hj, hji, hR⟩ := hl.ex
 obtain ⟨W5, rfl⟩ : ∃ W : World, W = wc := ⟨_, rfl⟩
 have HHb : Hid (HR wo W5 vl.toArray x15 x16 m 175 (hpC false d s1 s.k v (.int .i64 0) (.bool false) (.int .i64 0) (.bool false)) s1 (sortK d.attrs) v d.bounds.length (d.bounds.map encF).flatten) := Lib.hid (by
  injection hji with _ e
  have e2 : j = s.b.n := by omega
  rw [e2, HBE.out, List.take_length] at hR
  exact hR)
 clear HH
 have HH := HHb
 clear HHb hl hji hR qb
 as_aux_lemma => (
 have qD := HH.out.hb.v15
 have qf := blk_cell qD 4 (.bool D1) (by rw [HVL.out, ← HD1.out]; rfl)
 have qv := blk_cell qD 6 (.int .u64 d.min) (by rw [HVL.out]; rfl)
 clear qD
 have e30 := c30v
 go_upto_if 121 with fail
 go_cut [16] from 85 to 142 (fun s16 wx => s16 = .pointer (some ⟨x16, 0, none⟩) ∧ HR wo wx vl.toArray x15 x16 m 175 (hpC false d s1 s.k v (numU false mn) (.bool D1) (.int .i64 0) (.bool false)) s1 (sortK d.attrs) v d.bounds.length (d.bounds.map encF).flatten)
 case first => (
 as_aux_lemma => (
 have hv := HMN.out
 cases D1
 case false => (
 simp only [Bool.false_eq_true, if_false] at hv
 subst hv
 go_wp2_with fail
 go_meet
 exact ⟨rfl, HH.out⟩)
 case true => (
 simp only [if_true] at hv
 subst hv
 go_wp2_with (first | (go_at_call 42; (with_reducible refine (c42 _ _).mono ?_); rintro e w4 ⟨rfl, rfl⟩; simp only [numV, Bool.false_eq_true, if_false]) | (go_at_call 70; (with_reducible refine (c70 _ _).mono ?_); rintro e w6 ⟨rfl, hb6⟩; have hH2 := HH.out.below hb6) | ((with_reducible apply arm_store_two info173 hH2); rfl; rfl; rfl; (exact Nat.le_of_ble_eq_true rfl); rfl; rfl; intro w5 h5))
 go_meet
 exact ⟨rfl, h5⟩)))
 case rest => (
 obtain ⟨rfl, hR⟩ := hcut
 obtain ⟨HH2W, rfl⟩ : ∃ W : World, W = wc := ⟨_, rfl⟩
 have HH2 := Lib.hid hR
 clear hR qf qv e30
 as_aux_lemma => (
 have qD := HH2.out.hb.v15
 have qf := blk_cell qD 5 (.bool D2) (by rw [HVL.out, ← HD2.out]; rfl)
 have qv := blk_cell qD 7 (.int .u64 d.max) (by rw [HVL.out]; rfl)
 clear qD
 have e30 := c30v
 go_upto_if 129 with fail
 go_cut [16] from 85 to 142 (fun s16 wx => s16 = .pointer (some ⟨x16, 0, none⟩) ∧ HR wo wx vl.toArray x15 x16 m 175 (hpC false d s1 s.k v (numU false mn) (.bool D1) (numU false mx) (.bool D2)) s1 (sortK d.attrs) v d.bounds.length (d.bounds.map encF).flatten)
 case first => (
 as_aux_lemma => (
 have hv := HMX.out
 cases D2
 case false => (
 simp only [Bool.false_eq_true, if_false] at hv
 subst hv
 go_wp2_with fail
 go_meet
 exact ⟨rfl, HH2.out⟩)
 case true => (
 simp only [if_true] at hv
 subst hv
 go_wp2_with (first | (go_at_call 42; (with_reducible refine (c42 _ _).mono ?_); rintro e w4 ⟨rfl, rfl⟩; simp only [numV, Bool.false_eq_true, if_false]) | (go_at_call 70; (with_reducible refine (c70 _ _).mono ?_); rintro e w6 ⟨rfl, hb6⟩; have hH2 := HH2.out.below hb6) | ((with_reducible apply arm_store_two info173 hH2); rfl; rfl; rfl; (exact Nat.le_of_ble_eq_true rfl); rfl; rfl; intro w5 h5))
 go_meet
 exact ⟨rfl, h5⟩)))
 case rest => (
 obtain ⟨rfl, hR⟩ := hcut
 obtain ⟨HH3W, rfl⟩ : ∃ W : World, W = wc := ⟨_, rfl⟩
 have HH3 := Lib.hid hR
 clear hR qf qv e30
 as_aux_lemma => (
 have hml := HML.out
 have hR := HH3.out
 obtain ⟨W6, rfl⟩ : ∃ W : World, W = HH3W := ⟨_, rfl⟩
 obtain ⟨sbA, sbc, rfl, hrd, hlt⟩ := rd_of_own hR.row (fun r hr => by obtain ⟨q, _, rfl⟩ := List.mem_map.1 hr; rfl) (by rw [List.length_map]) (by have := HBN.out; omega)
 have hlo : ∀ b o t, sbA = some ⟨b, o, t⟩ → m ≤ b := fun b o t e => (hlt b o t e).1
 have hbW : Below w.heap.size w W6 := HDM.out.bel.trans (hR.hb.bel.mono HDM.out.bel.size)
 have c6 : W6.cell? ⟨x6, 0, none⟩ = some (.slice vA k vc) := cellk C6.out hR.hb.bel
 have hcs : hpC false d s1 s.k (.slice sbA d.bounds.length sbc) (numU false mn) (.bool D1) (numU false mx) (.bool D2) = hpI (mkHp false d, ⟨s1, ⟨sbA, d.bounds.length, sbc⟩, s.k, nilS, nilS⟩) := by
  have e1 := HMN.out
  have e2 := HMX.out
  have e3 := HD1.out
  have e4 := HD2.out
  subst e3 e4
  subst e1 e2
  rfl
 have hq0 : PtK W6 (fun b => (Value.slice vA k vc).ownBlock ≠ some b ∧ b ≠ x6) (mkHp false d) ⟨s1, ⟨sbA, d.bounds.length, sbc⟩, s.k, nilS, nilS⟩ := hR.hb.ptk (w := w) (d := mkHp false d) hrd hlo (HD.out.k.below hbW) (rd_none _ _ _) (rd_none _ _ _) HDM.out.bel.size (fun b hb => ⟨fun e => by have := HOW.out b e; omega, by omega⟩) (fun b hb => ⟨fun e => by have := HOW.out b e; omega, by omega⟩)
 have hblk := hR.hb.v16
 rw [hcs] at hblk
 obtain ⟨cz, hcz⟩ : ∃ cz, cz = (hpI (mkHp false d, ⟨s1, ⟨sbA, d.bounds.length, sbc⟩, s.k, nilS, nilS⟩)).toArray := ⟨_, rfl⟩
 rw [← hcz] at hblk
 have szz : cz.size = 13 := by rw [hcz]; rfl
 have HPT := Lib.hid hq0
 have HDB := Lib.hid (HDM.out.below hR.hb.bel)
 have HCZ := Lib.hid hcz
 clear hR hcs hq0 hbW hcz
 go_wp2_with (first
  | ((with_reducible refine arm_load_all 13 info175 Tryz.underlying175 hblk ?_ ?_ ?_ ?_); rfl; rfl; exact szz)
  | ((with_reducible refine wpList_build1 175 13 (infoD_four infoD175) rfl _ _ rfl Tryz.underlying136 (by decide) ?_ szz ?_); rfl)
  | (at_builtin; (refine wpList_dmj infoD175 (by decide) (by decide) HDB.out hx6 HML.out (by omega) HCZ.out (hpI_len _) (hpI_one _) HPT.out rfl _ _ 136 rfl Tryz.underlying136 rfl rfl rfl ?_); intro g cap w7 hdm3 hc3 hf3 hk3))
 go_roundw
 case rel => exact ⟨k + 1, _, by omega, by go_num, by rw [HTK.out]; exact hdm3⟩
 case measure => simp [intOf]; omega))))))))))
 · (
 have hkn : k = n := by omega
 have htk : l.take k = l := List.take_of_length_le (by have := HLEN.out; omega)
 have f9 : ¬ (k : Int) < (n : Int) := by omega
 rw [htk] at HDM
 have HKN := Lib.hid hkn
 clear hkn htk
 as_aux_lemma => (
 go_wp2_with ((with_reducible refine arm_load_all 2 infoA138 Tryz.underlying138 hblk ?_ ?_ ?_ ?_); rfl; rfl; rfl)
 go_ret
 obtain ⟨pts, h1, h2, h3⟩ := HDM.out.ex
 have hkn := HKN.out
 subst hkn
 obtain ⟨A', c', hv, hrd, _⟩ := rd_of_own h2 (fun r hr => by obtain ⟨q, _, rfl⟩ := List.mem_map.1 hr; exact hpI_len q) (by rw [List.length_map]; have := congrArg List.length h1; simpa using this) (by rw [List.length_map]; have := HLEN.out; omega)
 injection hv with e1 e2 e3
 subst e1 e3
 have hll : (List.map (fun x => mkHp false x.1) l).length = k := by rw [List.length_map]; exact HLEN.out
 rw [hll] at hrd
 first
  | exact ⟨vA, vc, pts, rfl, h1, hrd, fun q hq => (h3 q hq).pt, HDM.out.bel⟩
  | exact ⟨vA, vc, rfl, pts, h1, hrd, fun q hq => (h3 q hq).pt, HDM.out.bel⟩
  | exact ⟨vA, vc, rfl, pts, h1, hrd, fun a b hq => (h3 (a, b) hq).pt, HDM.out.bel⟩
  | exact ⟨vA, vc, pts, rfl, h1, hrd, fun a b hq => (h3 (a, b) hq).pt, HDM.out.bel⟩))))))
set_option maxRecDepth 100000 in
set_option maxHeartbeats 4000000 in
theorem c40_4 (fb dl mo : Bool) (A : Option Addr) (n c : Nat) (l : List (Dot × Sl5)) (w : World) (h : DotsR w w.heap.size A n c l) (hok : ∀ x ∈ l, AttrsOk x.1.attrs) (hbs : ∀ x ∈ l, x.1.bounds.length ≤ 900) (hn : n ≤ 900) (tp : Int) (htp : tp = if dl then 2 else 1) :
 Calls Tryz.prog 40 #[.agg #[.int .u8 4, .bool fb, .bool dl, .bool mo, .slice A n c], .func (.func 30) #[] #[]] w fun e w' => ∃ (A' : Option Addr) (c' : Nat) (pts : List (Dot × Sl5)), e = .returned (.iface 142 (.agg #[.slice A' n c', .int .u8 tp])) ∧ pts.map (·.1) = l.map (fun x => mkHp true x.1) ∧ Rd w' w'.heap.size 13 A' n c' (pts.map hpF) ∧ (∀ q ∈ pts, PtR w' w'.heap.size q.1 q.2) ∧ Below w.heap.size w w' := by
 have hlen := h.rd.numlen
 have H := Lib.hid h
 have HOK := Lib.hid hok
 have HBS := Lib.hid hbs
 have HLEN := Lib.hid hlen
 have HTP := Lib.hid htp
 clear h hok hbs hlen htp
 obtain ⟨W0, hW0⟩ : ∃ W0, W0 = w.alloc (.cells #[.int .u8 4, .bool fb, .bool dl, .bool mo, .slice A n c] 30) := ⟨_, rfl⟩
 have hb : Below w.heap.size w W0 := bq hW0
 have hs0 : W0.heap.size = w.heap.size + 1 := by rw [hW0]; simp
 obtain ⟨x6, hx6d⟩ : ∃ x, x = W0.heap.size := ⟨_, rfl⟩
 have y0 : W0.cell? ⟨w.heap.size, 0, none⟩ = some (.int .u8 4) := by rw [hW0]; simp [go_sem]
 have y2 : W0.cell? ⟨w.heap.size, 2, none⟩ = some (.bool dl) := by rw [hW0]; simp [go_sem]
 have y4 : W0.cell? ⟨w.heap.size, 4, none⟩ = some (.slice A n c) := by rw [hW0]; simp [go_sem]
 obtain ⟨W1, hW1⟩ : ∃ W1, W1 = W0.alloc (.cells #[.slice none 0 0, .int .u8 tp] 142) := ⟨_, rfl⟩
 have hb1 : Below W0.heap.size W0 W1 := bq hW1
 have hz6 : W1.heap[x6]? = some (.cells #[.slice none 0 0, .int .u8 tp] 142 (0, 0)) := by rw [hW1, hx6d]; exact heap_alloc_new W0 _
 have y4' := cellk y4 hb1
 have hdm0 : DM w W1 142 162 13 hpF x6 [.int .u8 tp] [] (.slice none 0 0) := ⟨⟨[], rfl, World.ownsRow_nil _ _ _ _, by simp⟩, by rw [hz6], by simp [Value.ownBlock], below_then hb hb.size hb1⟩
 have HDM0 := Lib.hid hdm0
 have HW := Lib.hid hW0
 have HW1 := Lib.hid hW1
 have HX6 := Lib.hid hx6d
 have HS0 := Lib.hid hs0
 have hx6 : w.heap.size ≤ x6 := by omega
 clear hW0 hW1 hb hb1 hz6 hdm0 hx6d hs0
 go_enter Tryz.func40, Tryz.ntmps40
 go_upto_region 2 with fail
 rw [← HW.out]
 go_upto_if 25 with fail
 go_cut [5] from 24 (fun s5 wx => s5 = .int .u8 tp ∧ wx = W0)
 case first => (
 have htp := HTP.out
 cases dl
 all_goals
  simp at htp
  subst htp
  go_wp2_with fail
  go_meet
  exact ⟨rfl, rfl⟩)
 case rest => (
 obtain ⟨rfl, rfl⟩ := hcut
 obtain ⟨W0, rfl⟩ : ∃ W0 : World, W0 = wc := ⟨_, rfl⟩
 as_aux_lemma => (
 go_upto_region 25 with ((with_reducible apply arm_store_new 2 infoA142); rfl; simp; rfl; rfl; rfl; rfl)
 rw [← HW1.out, ← HX6.out]
 try simp only [Act.put]
 go_upto_region 26 with fail
 as_aux_lemma => (
 go_loopw [14, 15, 16, 18, 81] (fun _ _ _ _ i wr => ∃ (k : Nat) (v : Value), k ≤ n ∧ i = .int .i64 k ∧ DM w wr 142 162 13 hpF x6 [.int .u8 tp] ((l.take k).map fun x => mkHp true x.1) v) (fun _ _ _ _ i _ => n - (intOf i).toNat)
 case atStart => exact ⟨0, _, Nat.zero_le _, rfl, HDM0.out⟩
 case round => (
 obtain ⟨k, v, hk, rfl, hdm⟩ := hrel
 obtain ⟨wo, rfl⟩ : ∃ wo : World, wo = wr := ⟨_, rfl⟩
 have hml : ((l.take k).map fun x => mkHp true x.1).length = k := by rw [List.length_map, List.length_take]; have := HLEN.out; omega
 obtain ⟨vA, vc, hv⟩ := hdm.slice
 rw [hml] at hv
 subst hv
 have HDM := Lib.hid hdm
 have HML := Lib.hid hml
 have HOW : Hid (∀ g, (Value.slice vA k vc).ownBlock = some g → w.heap.size ≤ g ∧ g < wo.heap.size) := Lib.hid (by obtain ⟨pts, _, h2, _⟩ := hdm.ex; exact h2.lt)
 have hx6l : x6 < wo.heap.size := (Array.getElem?_eq_some_iff.1 hdm.blk).1
 have hblk := hdm.blk
 have C6 : Hid (wo.cell? ⟨x6, 0, none⟩ = some (.slice vA k vc)) := Lib.hid (blk_cell hblk 0 _ (by simp))
 clear hdm hml
 by_cases hlt : k < n
 · (
 obtain ⟨ba, oa, r, rfl, hlta, hx, _, ca⟩ := (H.out.rd.below HDM.out.bel).at_ hlt
 rw [List.getElem?_map, Option.map_eq_some_iff] at hx
 obtain ⟨⟨d, s⟩, hx, rfl⟩ := hx
 have hxm := List.mem_of_getElem? hx
 have HTK : Hid ((l.take (k + 1)).map (fun x => mkHp true x.1) = ((l.take k).map fun x => mkHp true x.1) ++ [mkHp true d]) := Lib.hid (by
  obtain ⟨hk', he⟩ := List.getElem?_eq_some_iff.1 hx
  rw [List.take_succ_eq_append_getElem hk', List.map_append, he]; rfl)
 have HD : Hid (DotR w w.heap.size d s) := Lib.hid (H.out.all _ hxm)
 have HBN : Hid (d.bounds.length ≤ 900) := Lib.hid (HBS.out _ hxm)
 have HBE : Hid (s.b.n = d.bounds.length) := Lib.hid (by have := HD.out.b.numlen; simpa using this.symm)
 have C36 := Lib.hid fun (W : World) (hW : Below w.heap.size w W) => c36 s.a.A s.a.n s.a.c d.attrs W ((HD.out.a.below hW).more hW.size) (HOK.out _ hxm)
 obtain ⟨D1, hD1⟩ : ∃ D1, d.hasMin = D1 := ⟨_, rfl⟩
 obtain ⟨D2, hD2⟩ : ∃ D2, d.hasMax = D2 := ⟨_, rfl⟩
 have HD1 := Lib.hid hD1
 have HD2 := Lib.hid hD2
 obtain ⟨mn, hmn⟩ : ∃ mn, mn = if D1 then cv true d.min else 0 := ⟨_, rfl⟩
 obtain ⟨mx, hmx⟩ : ∃ mx, mx = if D2 then cv true d.max else 0 := ⟨_, rfl⟩
 have HMN := Lib.hid hmn
 have HMX := Lib.hid hmx
 obtain ⟨vl, hvl⟩ : ∃ vl, vl = valC d s := ⟨_, rfl⟩
 obtain ⟨cx, hcx⟩ : ∃ cx, cx = (vl ++ ([.int .i64 d.start, .int .i64 d.time] : List Value)).toArray := ⟨_, rfl⟩
 have hcd : dotCells d s = vl ++ ([.int .i64 d.start, .int .i64 d.time] : List Value) := by rw [hvl]; rfl
 have sx : cx.size = 18 := by rw [hcx, hvl]; rfl
 have ox : cx.toList.all (·.oneCell') = true := by rw [hcx, hvl]; rfl
 have ca2 : wo.rangeAt ba (oa + k * 18) cx.toList := by rw [hcx, ← hcd]; exact ca
 have HSV : Hid (vl.length = 16) := Lib.hid (by rw [hvl]; rfl)
 have HSV2 : Hid (vl.toArray.size = 16) := Lib.hid (by rw [hvl]; rfl)
 have HOV : Hid (vl.toArray.toList.all (·.oneCell') = true) := Lib.hid (by rw [hvl]; rfl)
 have HVL := Lib.hid hvl
 obtain ⟨x14, hx14d⟩ : ∃ x, x = wo.heap.size := ⟨_, rfl⟩
 obtain ⟨W2, hW2⟩ : ∃ W2, W2 = wo.alloc (.cells cx 63) := ⟨_, rfl⟩
 obtain ⟨x15, hx15d⟩ : ∃ x, x = W2.heap.size := ⟨_, rfl⟩
 obtain ⟨W3, hW3⟩ : ∃ W3, W3 = W2.alloc (.cells vl.toArray 61) := ⟨_, rfl⟩
 have hb2 : Below wo.heap.size wo W2 := bq hW2
 have hb3 : Below W2.heap.size W2 W3 := bq hW3
 have hs2 : W2.heap.size = wo.heap.size + 1 := by rw [hW2]; simp
 have hs3 : W3.heap.size = W2.heap.size + 1 := by rw [hW3]; simp
 have z14' : W2.heap[x14]? = some (.cells cx 63 (0, 0)) := by rw [hx14d, hW2]; exact heap_alloc_new wo _
 have z14a : W2.heap[x14]? = some (.cells (vl ++ ([.int .i64 d.start, .int .i64 d.time] : List Value)).toArray 63 (0, 0)) := by rw [z14', hcx]
 have cav : W2.rangeAt x14 0 vl := range_head z14a
 have z14 : W3.drew.heap[x14]? = some (.cells (vl ++ ([.int .i64 d.start, .int .i64 d.time] : List Value)).toArray 63 (0, 0)) := (hb3.block _ (by omega)).trans z14a
 have z15 : W3.drew.heap[x15]? = some (.cells vl.toArray 61 (0, 0)) := by rw [hx15d, hW3]; exact heap_alloc_new W2 _
 have HB3 : Hid (Below wo.heap.size wo W3.drew) := Lib.hid (below_drew (below_then hb2 hb2.size hb3))
 have HBD : Hid (Below w.heap.size w W3.drew) := Lib.hid (HDM.out.bel.trans (HB3.out.mono HDM.out.bel.size))
 have HSZ : Hid (x14 < W3.drew.heap.size ∧ x15 < W3.drew.heap.size ∧ wo.heap.size ≤ W3.drew.heap.size ∧ (wo.heap.size ≤ x14 ∧ wo.heap.size ≤ x15)) := Lib.hid (by show x14 < W3.heap.size ∧ x15 < W3.heap.size ∧ wo.heap.size ≤ W3.heap.size ∧ _; omega)
 have i0 : (0 : Int) ≤ (k : Int) := by omega
 have i1 : (k : Int) < (n : Int) := by omega
 have HW2 := Lib.hid hW2
 have HW3 := Lib.hid hW3
 have HX14 := Lib.hid hx14d
 have HX15 := Lib.hid hx15d
 clear hx hxm hcx hcd ca hb2 hb3 hW2 hW3 hblk hmn hmx hD1 hD2 hvl hs2 hs3 z14' hx14d hx15d
 go_upto_region 28 with (first
  | ((with_reducible refine arm_load ca2 ?_ 18 info63 Tryz.underlying63 ?_ ?_ ?_); rfl; rfl; exact sx)
  | ((with_reducible apply arm_store_new 18 info63); rfl; simp; rfl; rfl; assumption; assumption))
 rw [← HW2.out]
 rw [← HX14.out]
 try simp only [Act.put]
 as_aux_lemma => (
 go_upto_region 29 with (first
  | ((with_reducible refine arm_load cav ?_ 16 info61 Tryz.underlying61 ?_ ?_ ?_); rfl; rfl; exact HSV.out)
  | ((with_reducible apply arm_store_new 16 info61); rfl; rfl; rfl; rfl; exact HSV2.out; exact HOV.out))
 rw [← HW3.out]
 rw [← HX15.out]
 try simp only [Act.put]
 go_cut [16] from 85 to 142 (fun s16 wx => HB0 wo wx vl.toArray x15 162 (fun s1 => hpC true d s1 s.k (.slice none 0 0) (.float .f64 0) (.bool false) (.float .f64 0) (.bool false)) (sortK d.attrs) s16)
 case first => (
 as_aux_lemma => (
 refine wp_region_held_drew (S := fun w' => w'.heap[x14]? = some (.cells (vl ++ ([.int .i64 d.start, .int .i64 d.time] : List Value)).toArray 63 (0, 0)) ∧ w'.heap[x15]? = some (.cells vl.toArray 61 (0, 0))) (by kernel_rfl) ⟨z14, z15⟩ (fun hHeld => ?_)
 refine tk 0 87 (v := .pointer (some ⟨x15, 0, none⟩)) (a' := ?_) rfl rfl ?_ ?_ rfl ?_
 rotate_left 1
 · intro w2 hSw; go_simp
 · simp only [sI, s0, sS]; exact rfl
 refine tk 1 88 (v := .slice s.a.A s.a.n s.a.c) (a' := ?_) rfl rfl ?_ ?_ rfl ?_
 rotate_left 1
 · intro w2 hSw; have q := blk_cell hSw.2 0 (.slice s.a.A s.a.n s.a.c) (by rw [HVL.out]; rfl); go_simp
 · simp only [sI, s0, sS]; exact rfl
 refine tk 3 90 (v := .pointer (some ⟨x14, 16, none⟩)) (a' := ?_) rfl rfl ?_ ?_ rfl ?_
 rotate_left 1
 · intro w2 hSw; go_simp
 · simp only [sI, s0, sS]; exact rfl
 refine tk 4 91 (v := .int .i64 d.start) (a' := ?_) rfl rfl ?_ ?_ rfl ?_
 rotate_left 1
 · intro w2 hSw; have q := blk_cell hSw.1 16 (.int .i64 d.start) (by rw [HVL.out]; rfl); go_simp
 · simp only [sI, s0, sS]; exact rfl
 refine tk 5 92 (v := .agg #[.int .i64 d.start]) (a' := ?_) rfl rfl ?_ ?_ rfl ?_
 rotate_left 1
 · intro w2 hSw; go_simp
 · simp only [sI, s0, sS]; exact rfl
 refine tk 6 93 (v := .pointer (some ⟨x14, 17, none⟩)) (a' := ?_) rfl rfl ?_ ?_ rfl ?_
 rotate_left 1
 · intro w2 hSw; go_simp
 · simp only [sI, s0, sS]; exact rfl
 refine tk 7 94 (v := .int .i64 d.time) (a' := ?_) rfl rfl ?_ ?_ rfl ?_
 rotate_left 1
 · intro w2 hSw; have q := blk_cell hSw.1 17 (.int .i64 d.time) (by rw [HVL.out]; rfl); go_simp
 · simp only [sI, s0, sS]; exact rfl
 refine tk 8 95 (v := .agg #[.int .i64 d.time]) (a' := ?_) rfl rfl ?_ ?_ rfl ?_
 rotate_left 1
 · intro w2 hSw; go_simp
 · simp only [sI, s0, sS]; exact rfl
 refine tk 9 96 (v := .pointer (some ⟨x15, 2, none⟩)) (a' := ?_) rfl rfl ?_ ?_ rfl ?_
 rotate_left 1
 · intro w2 hSw; go_simp
 · simp only [sI, s0, sS]; exact rfl
 refine tk 10 97 (v := .int .u64 d.count) (a' := ?_) rfl rfl ?_ ?_ rfl ?_
 rotate_left 1
 · intro w2 hSw; have q := blk_cell hSw.2 2 (.int .u64 d.count) (by rw [HVL.out]; rfl); go_simp
 · simp only [sI, s0, sS]; exact rfl
 refine tk 11 98 (v := .pointer (some ⟨x15, 9, none⟩)) (a' := ?_) rfl rfl ?_ ?_ rfl ?_
 rotate_left 1
 · intro w2 hSw; go_simp
 · simp only [sI, s0, sS]; exact rfl
 refine tk 12 99 (v := .slice s.k.A s.k.n s.k.c) (a' := ?_) rfl rfl ?_ ?_ rfl ?_
 rotate_left 1
 · intro w2 hSw; have q := blk_cell hSw.2 9 (.slice s.k.A s.k.n s.k.c) (by rw [HVL.out]; rfl); go_simp
 · simp only [sI, s0, sS]; exact rfl
 refine tk 13 100 (v := .func (.func 30) #[] #[]) (a' := ?_) rfl rfl ?_ ?_ rfl ?_
 rotate_left 1
 · intro w2 hSw; go_simp
 · simp only [sI, s0, sS]; exact rfl
 refine tk 14 101 (v := .pointer (some ⟨x15, 3, none⟩)) (a' := ?_) rfl rfl ?_ ?_ rfl ?_
 rotate_left 1
 · intro w2 hSw; go_simp
 · simp only [sI, s0, sS]; exact rfl
 refine tk 15 102 (v := .int .u64 d.sum) (a' := ?_) rfl rfl ?_ ?_ rfl ?_
 rotate_left 1
 · intro w2 hSw; have q := blk_cell hSw.2 3 (.int .u64 d.sum) (by rw [HVL.out]; rfl); go_simp
 · simp only [sI, s0, sS]; exact rfl
 refine wpAnyH_ready (rs := [2, 18]) (by kernel_rfl) (by simp) ?_
 refine AllReadyH.cons (o := _) rfl (fun K hK => ?_) (AllReadyH.cons (o := _) rfl (fun K hK => ?_) AllReadyH.nil)
 · as_aux_lemma => (
 go_simp
 refine (C36.out _ HBD.out).mono ?_
 rintro e w1 ⟨s1, rfl, hset, hb1⟩
 try dsimp only
 refine hK.out _ _ ⟨(hb1.block _ (Array.getElem?_eq_some_iff.1 hHeld.1).1).trans hHeld.1, (hb1.block _ (Array.getElem?_eq_some_iff.1 hHeld.2).1).trans hHeld.2⟩ (fun hHeld => ?_)
 clear hK K
 try dsimp only [Act.put]
 try simp only [Act.put, sI, s0, sS]
 refine tk 16 103 (v := numV true d.sum) (a' := ?_) rfl rfl ?_ ?_ rfl ?_
 rotate_left 1
 · intro w2 hSw; go_simp; exact c30v _ _
 · simp only [sI, s0, sS]; exact rfl
 refine tk 17 104 (v := .agg (hpC true d s1 s.k (.slice none 0 0) (.float .f64 0) (.bool false) (.float .f64 0) (.bool false)).toArray) (a' := ?_) rfl rfl ?_ ?_ rfl ?_
 rotate_left 1
 · intro w2 hSw; exact exec_build (built162 (hashL (sortK d.attrs)) s1.A s1.n s1.c d.start d.time d.count s.k.A s.k.n s.k.c d.sum.toNat) rfl (by kernel_rfl)
 · simp only [sI, s0, sS]; exact rfl
 refine wpAnyH_ready (rs := [18]) (by kernel_rfl) (by simp) ?_
 refine ar1 rfl (fun K hK => ?_)
 refine step_alloc (.cells #[.int .u64 0, .slice none 0 0, .int .i64 0, .int .i64 0, .int .u64 0, .slice none 0 0, .slice none 0 0, .float .f64 0, .bool false, .float .f64 0, .bool false, .float .f64 0, .slice none 0 0] 162) (fun _ => by kernel_rfl) _ (by kernel_rfl) 16 rfl ?_
 refine hK.out _ _ ⟨(Below.heap_alloc _ _ _ (Array.getElem?_eq_some_iff.1 hHeld.1).1).trans hHeld.1, (Below.heap_alloc _ _ _ (Array.getElem?_eq_some_iff.1 hHeld.2).1).trans hHeld.2⟩ (fun hHeld => ?_)
 clear hK K
 try dsimp only [Act.put]
 try simp only [Act.put, sI, s0, sS]
 refine wpAnyH_ready (rs := [19]) (by kernel_rfl) (by simp) ?_
 refine ar1 rfl (fun K hK => ?_)
 have p9 := (P9.last (zs := #[.int .u64 0, .slice none 0 0, .int .i64 0, .int .i64 0, .int .u64 0, .slice none 0 0, .slice none 0 0, .float .f64 0, .bool false, .float .f64 0, .bool false, .float .f64 0, .slice none 0 0]) (ty := 162) HB3.out HSZ.out hset hb1)
 refine store_whole 162 (.tmp 16) (.tmp 104) rfl rfl 13 rfl rfl p9.z ⟨rfl, rfl⟩ info162 rfl _ (by kernel_rfl) (fun w3 h31 h32 h33 h34 => ?_)
 have h14 := (h32 x14 p9.a.2.2.1).trans hHeld.1
 have h15 := (h32 x15 p9.a.2.2.2.1).trans hHeld.2
 refine hK.out _ _ ⟨h14, h15⟩ (fun hHeld2 => ?_)
 clear hK K
 refine wpAnyH_done (by kernel_rfl) ?_ _
 go_wp2_with fail
 go_meet
 exact ⟨_, _, s1, rfl, p9.stored h31 h32 h33 h34 h15 rfl⟩)
 · as_aux_lemma => (
 refine step_alloc (.cells #[.int .u64 0, .slice none 0 0, .int .i64 0, .int .i64 0, .int .u64 0, .slice none 0 0, .slice none 0 0, .float .f64 0, .bool false, .float .f64 0, .bool false, .float .f64 0, .slice none 0 0] 162) (fun _ => by kernel_rfl) _ (by kernel_rfl) 16 rfl ?_
 refine hK.out _ _ ⟨(Below.heap_alloc _ _ _ (Array.getElem?_eq_some_iff.1 hHeld.1).1).trans hHeld.1, (Below.heap_alloc _ _ _ (Array.getElem?_eq_some_iff.1 hHeld.2).1).trans hHeld.2⟩ (fun hHeld => ?_)
 clear hK K
 try dsimp only [Act.put]
 try simp only [Act.put, sI, s0, sS]
 refine wpAnyH_ready (rs := [2]) (by kernel_rfl) (by simp) ?_
 refine ar1 rfl (fun K hK => ?_)
 go_simp
 refine (C36.out _ (HBD.out.alloc HBD.out.size _)).mono ?_
 rintro e w1 ⟨s1, rfl, hset, hb1⟩
 try dsimp only
 refine hK.out _ _ ⟨(hb1.block _ (Array.getElem?_eq_some_iff.1 hHeld.1).1).trans hHeld.1, (hb1.block _ (Array.getElem?_eq_some_iff.1 hHeld.2).1).trans hHeld.2⟩ (fun hHeld => ?_)
 clear hK K
 try dsimp only [Act.put]
 try simp only [Act.put, sI, s0, sS]
 refine tk 16 103 (v := numV true d.sum) (a' := ?_) rfl rfl ?_ ?_ rfl ?_
 rotate_left 1
 · intro w2 hSw; go_simp; exact c30v _ _
 · simp only [sI, s0, sS]; exact rfl
 refine tk 17 104 (v := .agg (hpC true d s1 s.k (.slice none 0 0) (.float .f64 0) (.bool false) (.float .f64 0) (.bool false)).toArray) (a' := ?_) rfl rfl ?_ ?_ rfl ?_
 rotate_left 1
 · intro w2 hSw; exact exec_build (built162 (hashL (sortK d.attrs)) s1.A s1.n s1.c d.start d.time d.count s.k.A s.k.n s.k.c d.sum.toNat) rfl (by kernel_rfl)
 · simp only [sI, s0, sS]; exact rfl
 refine wpAnyH_ready (rs := [19]) (by kernel_rfl) (by simp) ?_
 refine ar1 rfl (fun K hK => ?_)
 have p9 := (P9.first HB3.out HSZ.out hset hb1)
 refine store_whole 162 (.tmp 16) (.tmp 104) rfl rfl 13 rfl rfl p9.z ⟨rfl, rfl⟩ info162 rfl _ (by kernel_rfl) (fun w3 h31 h32 h33 h34 => ?_)
 have h14 := (h32 x14 p9.a.2.2.1).trans hHeld.1
 have h15 := (h32 x15 p9.a.2.2.2.1).trans hHeld.2
 refine hK.out _ _ ⟨h14, h15⟩ (fun hHeld2 => ?_)
 clear hK K
 refine wpAnyH_done (by kernel_rfl) ?_ _
 go_wp2_with fail
 go_meet
 exact ⟨_, _, s1, rfl, p9.stored h31 h32 h33 h34 h15 rfl⟩)))
 case rest => (
 obtain ⟨x16, m, s1, rfl, hR⟩ := hcut.ex
 obtain ⟨W4, rfl⟩ : ∃ W4 : World, W4 = wc := ⟨_, rfl⟩
 have HH := Lib.hid hR
 clear hcut hR z14a cav z14 z15
 as_aux_lemma => (
 have qb := blk_cell HH.out.hb.v15 8 (.slice s.b.A s.b.n s.b.c) (by rw [HVL.out]; rfl)
 go_upto_block 7 with fail
 go_cut [18, 108] from 109 to 142 (fun _ i wx => HBL wo wx vl.toArray x15 x16 m 162 (fun v => hpC true d s1 s.k v (.float .f64 0) (.bool false) (.float .f64 0) (.bool false)) s1 (sortK d.attrs) d.bounds s.b.n i ∧ i = .int .i64 s.b.n)
 case first => (
 as_aux_lemma => (
 go_wp2_with fail
 go_loopw [18, 108] (fun _ i wr => HBL wo wr vl.toArray x15 x16 m 162 (fun v => hpC true d s1 s.k v (.float .f64 0) (.bool false) (.float .f64 0) (.bool false)) s1 (sortK d.attrs) d.bounds s.b.n i) (fun _ i _ => s.b.n - (intOf i).toNat)
 case atStart => exact ⟨0, _, Nat.zero_le _, rfl, HH.out⟩
 case round => (
 obtain ⟨j, v, hj, rfl, hR⟩ := hrel.ex
 obtain ⟨wp, rfl⟩ : ∃ wo : World, wo = wr := ⟨_, rfl⟩
 obtain ⟨bA, bc, rfl⟩ := own_slice hR.row
 have j2 : s.b.n ≤ 900 := by have := HBN.out; have := HBE.out; omega
 by_cases hlt2 : j < s.b.n
 · (
 obtain ⟨bb, ob, r, eA, hltb, hy, _, cb⟩ := (HD.out.b.below (HDM.out.bel.trans (hR.hb.bel.mono HDM.out.bel.size))).at_ hlt2
 rw [List.getElem?_map, Option.map_eq_some_iff] at hy
 obtain ⟨y, hy, rfl⟩ := hy
 have cy : wp.cell? ⟨bb, ob + j, none⟩ = some (.int .u64 y) := by
  have := cb 0 (.int .u64 y) rfl
  simpa using this
 have hRd := hR.below (below_drew (Below.refl _ _))
 have c16 : wp.drew.cell? ⟨x16, 5, none⟩ = some (.slice bA j bc) := hRd.hb.cell 5 _ rfl
 have c16a : (wp.alloc (.cells #[.float .f64 y.toNat] 73)).cell? ⟨x16, 5, none⟩ = some (.slice bA j bc) := (hR.below ((Below.refl _ _).alloc (Nat.le_refl _) _)).hb.cell 5 _ rfl
 have z15 : wp.drew.heap[x15]? = some (.cells vl.toArray 61 (0, 0)) := hRd.hb.v15
 have HTJ : Hid (((d.bounds.take (j + 1)).map encF).flatten = ((d.bounds.take j).map encF).flatten ++ [.float .f64 y.toNat]) := Lib.hid (by
  obtain ⟨hk', he⟩ := List.getElem?_eq_some_iff.1 hy
  rw [List.take_succ_eq_append_getElem hk', List.map_append, he]; simp [encF])
 have j0 : (0 : Int) ≤ (j : Int) := by omega
 have j1 : (j : Int) < (s.b.n : Int) := by omega
 clear hrel hy cb hR
 rw [eA]
 as_aux_lemma => (
 go_upto_region 33 with fail
 as_aux_lemma => (
 refine wp_region_held_drew (S := fun w' => w'.heap[x15]? = some (.cells vl.toArray 61 (0, 0))) (by kernel_rfl) z15 (fun hHeld => ?_)
 refine tk 0 112 (v := .pointer (some ⟨x16, 5, none⟩)) (a' := ?_) rfl rfl ?_ ?_ rfl ?_
 rotate_left 1
 · intro w2 hSw; go_simp
 · simp only [sI, s0, sS]; exact rfl
 refine tk 2 114 (v := .int .u64 y) (a' := ?_) rfl rfl ?_ ?_ rfl ?_
 rotate_left 1
 · intro w2 hSw; go_simp
 · simp only [sI, s0, sS]; exact rfl
 refine tk 3 115 (v := .float .f64 y.toNat) (a' := ?_) rfl rfl ?_ ?_ rfl ?_
 rotate_left 1
 · intro w2 hSw; go_simp; exact c30v _ _
 · simp only [sI, s0, sS]; exact rfl
 refine wpAnyH_ready (rs := [1, 4]) (by kernel_rfl) (by simp) ?_
 refine AllReadyH.cons (o := _) rfl (fun K hK => ?_) (AllReadyH.cons (o := _) rfl (fun K hK => ?_) AllReadyH.nil)
 · as_aux_lemma => (
 go_simp
 refine hK.out _ _ hHeld (fun hHeld => ?_)
 clear hK K
 try dsimp only [Act.put]
 try simp only [Act.put, sI, s0, sS]
 refine wpAnyH_ready (rs := [4]) (by kernel_rfl) (by simp) ?_
 refine ar1 rfl (fun K hK => ?_)
 refine step_buildf 73 158 _ rfl Tryz.underlying158 infoD73 (y := .float .f64 y.toNat) rfl rfl _ (by kernel_rfl) 116 rfl ?_
 refine hK.out _ _ ((Below.heap_alloc _ _ _ (Array.getElem?_eq_some_iff.1 hHeld).1).trans hHeld) (fun hHeld => ?_)
 clear hK K
 have c16 : (wp.drew.alloc (.cells #[.float .f64 y.toNat] 73)).cell? ⟨x16, 5, none⟩ = some (.slice bA j bc) := cellk c16 ((Below.refl _ _).alloc (Nat.le_refl _) _)
 try dsimp only [Act.put]
 try simp only [Act.put, sI, s0, sS]
 refine wpAnyH_ready (rs := [5]) (by kernel_rfl) (by simp) ?_
 refine ar1 rfl (fun K hK => ?_)
 refine wpIf _ (by kernel_rfl) ?_
 refine wp_hb_app infoD73 hRd.hb hRd.row (by have := HBN.out; omega) (y := .float .f64 (y.toNat)) rfl _ _ 158 rfl Tryz.underlying158 rfl rfl rfl 117 rfl ?_
 intro g cap w3 hH3 hrow3
 refine hK.out _ _ hH3.v15 (fun hHeld => ?_)
 clear hK K
 try dsimp only [Act.put]
 try simp only [Act.put, sI, s0, sS]
 refine tk 6 118 (v := .pointer (some ⟨x16, 5, none⟩)) (a' := ?_) rfl rfl ?_ ?_ rfl ?_
 rotate_left 1
 · intro w2 hSw; go_simp
 · simp only [sI, s0, sS]; exact rfl
 refine wpAnyH_ready (rs := [7]) (by kernel_rfl) (by simp) ?_
 refine ar1 rfl (fun K hK => ?_)
 refine step_store1 158 (.tmp 118) (.tmp 117) rfl rfl rfl rfl infoS158 (hH3.cell 5 _ rfl) (hH3.frozen 5) _ (by kernel_rfl) ?_
 refine hK.out _ _ (hH3.put 5 _).v15 (fun hHeld2 => ?_)
 clear hK K
 refine wpAnyH_done (by kernel_rfl) ?_ _
 go_wp2_with fail
 go_roundw
 case rel => exact ⟨j + 1, _, by omega, by go_num, hH3.put 5 _, by rw [HTJ.out]; exact hH3.row 5 _ hrow3⟩
 case measure => simp [intOf]; omega)
 · as_aux_lemma => (
 refine step_buildf 73 158 _ rfl Tryz.underlying158 infoD73 (y := .float .f64 y.toNat) rfl rfl _ (by kernel_rfl) 116 rfl ?_
 refine hK.out _ _ ((Below.heap_alloc _ _ _ (Array.getElem?_eq_some_iff.1 hHeld).1).trans hHeld) (fun hHeld => ?_)
 clear hK K
 have c16 : (wp.drew.alloc (.cells #[.float .f64 y.toNat] 73)).cell? ⟨x16, 5, none⟩ = some (.slice bA j bc) := cellk c16 ((Below.refl _ _).alloc (Nat.le_refl _) _)
 try dsimp only [Act.put]
 try simp only [Act.put, sI, s0, sS]
 refine wpAnyH_ready (rs := [1]) (by kernel_rfl) (by simp) ?_
 refine ar1 rfl (fun K hK => ?_)
 go_simp
 refine hK.out _ _ hHeld (fun hHeld => ?_)
 clear hK K
 try dsimp only [Act.put]
 try simp only [Act.put, sI, s0, sS]
 refine wpAnyH_ready (rs := [5]) (by kernel_rfl) (by simp) ?_
 refine ar1 rfl (fun K hK => ?_)
 refine wpIf _ (by kernel_rfl) ?_
 refine wp_hb_app infoD73 hRd.hb hRd.row (by have := HBN.out; omega) (y := .float .f64 (y.toNat)) rfl _ _ 158 rfl Tryz.underlying158 rfl rfl rfl 117 rfl ?_
 intro g cap w3 hH3 hrow3
 refine hK.out _ _ hH3.v15 (fun hHeld => ?_)
 clear hK K
 try dsimp only [Act.put]
 try simp only [Act.put, sI, s0, sS]
 refine tk 6 118 (v := .pointer (some ⟨x16, 5, none⟩)) (a' := ?_) rfl rfl ?_ ?_ rfl ?_
 rotate_left 1
 · intro w2 hSw; go_simp
 · simp only [sI, s0, sS]; exact rfl
 refine wpAnyH_ready (rs := [7]) (by kernel_rfl) (by simp) ?_
 refine ar1 rfl (fun K hK => ?_)
 refine step_store1 158 (.tmp 118) (.tmp 117) rfl rfl rfl rfl infoS158 (hH3.cell 5 _ rfl) (hH3.frozen 5) _ (by kernel_rfl) ?_
 refine hK.out _ _ (hH3.put 5 _).v15 (fun hHeld2 => ?_)
 clear hK K
 refine wpAnyH_done (by kernel_rfl) ?_ _
 go_wp2_with fail
 go_roundw
 case rel => exact ⟨j + 1, _, by omega, by go_num, hH3.put 5 _, by rw [HTJ.out]; exact hH3.row 5 _ hrow3⟩
 case measure => simp [intOf]; omega))))
 · (
 have hjn : j = s.b.n := by omega
 subst hjn
 have f9 : ¬ (s.b.n : Int) < (s.b.n : Int) := by omega
 as_aux_lemma => (
 go_wp2_with fail
 go_meet
 exact ⟨hrel, rfl⟩)))))
 case rest => (
 obtain ⟨hl, rfl⟩ := hcut
 obtain ⟨j, v, hj, hji, hR⟩ := hl.ex
 obtain ⟨W5, rfl⟩ : ∃ W : World, W = wc := ⟨_, rfl⟩
 have HHb : Hid (HR wo W5 vl.toArray x15 x16 m 162 (hpC true d s1 s.k v (.float .f64 0) (.bool false) (.float .f64 0) (.bool false)) s1 (sortK d.attrs) v d.bounds.length (d.bounds.map encF).flatten) := Lib.hid (by
  injection hji with _ e
  have e2 : j = s.b.n := by omega
  rw [e2, HBE.out, List.take_length] at hR
  exact hR)
 clear HH
 have HH := HHb
 clear HHb hl hji hR qb
 as_aux_lemma => (
 have qD := HH.out.hb.v15
 have qf := blk_cell qD 4 (.bool D1) (by rw [HVL.out, ← HD1.out]; rfl)
 have qv := blk_cell qD 6 (.int .u64 d.min) (by rw [HVL.out]; rfl)
 clear qD
 have e30 := c30v
 go_upto_if 121 with fail
 go_cut [16] from 85 to 142 (fun s16 wx => s16 = .pointer (some ⟨x16, 0, none⟩) ∧ HR wo wx vl.toArray x15 x16 m 162 (hpC true d s1 s.k v (numU true mn) (.bool D1) (.float .f64 0) (.bool false)) s1 (sortK d.attrs) v d.bounds.length (d.bounds.map encF).flatten)
 case first => (
 as_aux_lemma => (
 have hv := HMN.out
 cases D1
 case false => (
 simp only [Bool.false_eq_true, if_false] at hv
 subst hv
 go_wp2_with fail
 go_meet
 exact ⟨rfl, HH.out⟩)
 case true => (
 simp only [if_true] at hv
 subst hv
 go_wp2_with (first | (go_at_call 68; (with_reducible refine (c68 _ _).mono ?_); rintro e w6 ⟨rfl, hb6⟩; have hH2 := HH.out.below hb6) | ((with_reducible apply arm_store_two info160 hH2); rfl; rfl; rfl; (exact Nat.le_of_ble_eq_true rfl); rfl; rfl; intro w5 h5))
 go_meet
 exact ⟨rfl, h5⟩)))
 case rest => (
 obtain ⟨rfl, hR⟩ := hcut
 obtain ⟨HH2W, rfl⟩ : ∃ W : World, W = wc := ⟨_, rfl⟩
 have HH2 := Lib.hid hR
 clear hR qf qv e30
 as_aux_lemma => (
 have qD := HH2.out.hb.v15
 have qf := blk_cell qD 5 (.bool D2) (by rw [HVL.out, ← HD2.out]; rfl)
 have qv := blk_cell qD 7 (.int .u64 d.max) (by rw [HVL.out]; rfl)
 clear qD
 have e30 := c30v
 go_upto_if 129 with fail
 go_cut [16] from 85 to 142 (fun s16 wx => s16 = .pointer (some ⟨x16, 0, none⟩) ∧ HR wo wx vl.toArray x15 x16 m 162 (hpC true d s1 s.k v (numU true mn) (.bool D1) (numU true mx) (.bool D2)) s1 (sortK d.attrs) v d.bounds.length (d.bounds.map encF).flatten)
 case first => (
 as_aux_lemma => (
 have hv := HMX.out
 cases D2
 case false => (
 simp only [Bool.false_eq_true, if_false] at hv
 subst hv
 go_wp2_with fail
 go_meet
 exact ⟨rfl, HH2.out⟩)
 case true => (
 simp only [if_true] at hv
 subst hv
 go_wp2_with (first | (go_at_call 68; (with_reducible refine (c68 _ _).mono ?_); rintro e w6 ⟨rfl, hb6⟩; have hH2 := HH2.out.below hb6) | ((with_reducible apply arm_store_two info160 hH2); rfl; rfl; rfl; (exact Nat.le_of_ble_eq_true rfl); rfl; rfl; intro w5 h5))
 go_meet
 exact ⟨rfl, h5⟩)))
 case rest => (
 obtain ⟨rfl, hR⟩ := hcut
 obtain ⟨HH3W, rfl⟩ : ∃ W : World, W = wc := ⟨_, rfl⟩
 have HH3 := Lib.hid hR
 clear hR qf qv e30
 as_aux_lemma => (
 have hml := HML.out
 have hR := HH3.out
 obtain ⟨W6, rfl⟩ : ∃ W : World, W = HH3W := ⟨_, rfl⟩
 obtain ⟨sbA, sbc, rfl, hrd, hlt⟩ := rd_of_own hR.row (fun r hr => by obtain ⟨q, _, rfl⟩ := List.mem_map.1 hr; rfl) (by rw [List.length_map]) (by have := HBN.out; omega)
 have hlo : ∀ b o t, sbA = some ⟨b, o, t⟩ → m ≤ b := fun b o t e => (hlt b o t e).1
 have hbW : Below w.heap.size w W6 := HDM.out.bel.trans (hR.hb.bel.mono HDM.out.bel.size)
 have c6 : W6.cell? ⟨x6, 0, none⟩ = some (.slice vA k vc) := cellk C6.out hR.hb.bel
 have hcs : hpC true d s1 s.k (.slice sbA d.bounds.length sbc) (numU true mn) (.bool D1) (numU true mx) (.bool D2) = hpF (mkHp true d, ⟨s1, ⟨sbA, d.bounds.length, sbc⟩, s.k, nilS, nilS⟩) := by
  have e1 := HMN.out
  have e2 := HMX.out
  have e3 := HD1.out
  have e4 := HD2.out
  subst e3 e4
  subst e1 e2
  rfl
 have hq0 : PtK W6 (fun b => (Value.slice vA k vc).ownBlock ≠ some b ∧ b ≠ x6) (mkHp true d) ⟨s1, ⟨sbA, d.bounds.length, sbc⟩, s.k, nilS, nilS⟩ := hR.hb.ptk (w := w) (d := mkHp true d) hrd hlo (HD.out.k.below hbW) (rd_none _ _ _) (rd_none _ _ _) HDM.out.bel.size (fun b hb => ⟨fun e => by have := HOW.out b e; omega, by omega⟩) (fun b hb => ⟨fun e => by have := HOW.out b e; omega, by omega⟩)
 have hblk := hR.hb.v16
 rw [hcs] at hblk
 obtain ⟨cz, hcz⟩ : ∃ cz, cz = (hpF (mkHp true d, ⟨s1, ⟨sbA, d.bounds.length, sbc⟩, s.k, nilS, nilS⟩)).toArray := ⟨_, rfl⟩
 rw [← hcz] at hblk
 have szz : cz.size = 13 := by rw [hcz]; rfl
 have HPT := Lib.hid hq0
 have HDB := Lib.hid (HDM.out.below hR.hb.bel)
 have HCZ := Lib.hid hcz
 clear hR hcs hq0 hbW hcz
 go_wp2_with (first
  | ((with_reducible refine arm_load_all 13 info162 Tryz.underlying162 hblk ?_ ?_ ?_ ?_); rfl; rfl; exact szz)
  | ((with_reducible refine wpList_build1 162 13 (infoD_four infoD162) rfl _ _ rfl Tryz.underlying140 (by decide) ?_ szz ?_); rfl)
  | (at_builtin; (refine wpList_dmj infoD162 (by decide) (by decide) HDB.out hx6 HML.out (by omega) HCZ.out (hpF_len _) (hpF_one _) HPT.out rfl _ _ 140 rfl Tryz.underlying140 rfl rfl rfl ?_); intro g cap w7 hdm3 hc3 hf3 hk3))
 go_roundw
 case rel => exact ⟨k + 1, _, by omega, by go_num, by rw [HTK.out]; exact hdm3⟩
 case measure => simp [intOf]; omega))))))))))
 · (
 have hkn : k = n := by omega
 have htk : l.take k = l := List.take_of_length_le (by have := HLEN.out; omega)
 have f9 : ¬ (k : Int) < (n : Int) := by omega
 rw [htk] at HDM
 have HKN := Lib.hid hkn
 clear hkn htk
 as_aux_lemma => (
 go_wp2_with ((with_reducible refine arm_load_all 2 infoA142 Tryz.underlying142 hblk ?_ ?_ ?_ ?_); rfl; rfl; rfl)
 go_ret
 obtain ⟨pts, h1, h2, h3⟩ := HDM.out.ex
 have hkn := HKN.out
 subst hkn
 obtain ⟨A', c', hv, hrd, _⟩ := rd_of_own h2 (fun r hr => by obtain ⟨q, _, rfl⟩ := List.mem_map.1 hr; exact hpF_len q) (by rw [List.length_map]; have := congrArg List.length h1; simpa using this) (by rw [List.length_map]; have := HLEN.out; omega)
 injection hv with e1 e2 e3
 subst e1 e3
 have hll : (List.map (fun x => mkHp true x.1) l).length = k := by rw [List.length_map]; exact HLEN.out
 rw [hll] at hrd
 first
  | exact ⟨vA, vc, pts, rfl, h1, hrd, fun q hq => (h3 q hq).pt, HDM.out.bel⟩
  | exact ⟨vA, vc, rfl, pts, h1, hrd, fun q hq => (h3 q hq).pt, HDM.out.bel⟩
  | exact ⟨vA, vc, rfl, pts, h1, hrd, fun a b hq => (h3 (a, b) hq).pt, HDM.out.bel⟩
  | exact ⟨vA, vc, pts, rfl, h1, hrd, fun a b hq => (h3 (a, b) hq).pt, HDM.out.bel⟩))))))
end Go.Proofs.YtlpddogcnpokfaaGreatDoor
