/- Contracts of functions of the program, for the comparison of aggregations (part KBo). -/
import Derived.Test.YtlpddogcnpokfaaGreatDoorKA8
set_option linter.all false
namespace Go.Proofs.YtlpddogcnpokfaaGreatDoor
open Go.RowKit
/-! ### A set of one Boolean -/
def strKVB (k s : ByteArray) : KV := ⟨k, 1, 1, s⟩
def IsStrB (x : KV) : Prop := x.ty = 1 ∧ x.num = 1
def kvBytesB (x : KV) : List UInt8 := x.key.data.toList ++ Lib.leBytes 8 7953749933313450591 ++ Lib.leBytes 8 1
set_option maxHeartbeats 1000000 in
set_option maxRecDepth 100000 in
theorem c170B (B q : Nat) (bs : List UInt8) (s : ByteArray) (w : World) (h : Dig w B q bs) (hB : B ≤ w.heap.size) (hl : bs.length + 16 + s.size ≤ 1000000) :
 Calls Tryz.prog 170 #[.agg #[.pointer (some ⟨q, 0, none⟩)], .agg #[.int .i64 1, .int .u64 1, .string s, .nilIface]] w fun e w' => e = .returned (.agg #[.pointer (some ⟨q, 0, none⟩)]) ∧ Dig w' B q (bs ++ Lib.leBytes 8 7953749933313450591 ++ Lib.leBytes 8 1) ∧ Below B w w' ∧ Kept q w w' := by
 have hqs : q < w.heap.size := by obtain ⟨_, v, h2, _⟩ := h; exact (Array.getElem?_eq_some_iff.1 h2).1
 go_enter Tryz.func170, Tryz.ntmps170
 go_upto_region 1 with fail
 obtain ⟨W0, hW0⟩ : ∃ W0, W0 = ((w.alloc (.cells #[.pointer (some ⟨q, 0, none⟩)] 203)).alloc (.cells #[.int .i64 1, .int .u64 1, .string s, .nilIface] 85)).alloc (.cells #[.pointer none] 203) := ⟨_, rfl⟩
 rw [← hW0]
 have hz0 : W0.heap[w.heap.size]? = some (.cells #[.pointer (some ⟨q, 0, none⟩)] 203 (0, 0)) := by
  rw [hW0, Below.heap_alloc _ _ _ (by simp; omega), Below.heap_alloc _ _ _ (by simp)]; exact heap_alloc_new w _
 have hz1 : W0.heap[w.heap.size + 1]? = some (.cells #[.int .i64 1, .int .u64 1, .string s, .nilIface] 85 (0, 0)) := by
  rw [hW0, Below.heap_alloc _ _ _ (by simp)]
  have := heap_alloc_new (w.alloc (.cells #[.pointer (some ⟨q, 0, none⟩)] 203)) (.cells #[.int .i64 1, .int .u64 1, .string s, .nilIface] 85)
  simpa using this
 have hz2 : W0.heap[w.heap.size + 1 + 1]? = some (.cells #[.pointer none] 203 (0, 0)) := by
  rw [hW0]
  have := heap_alloc_new ((w.alloc (.cells #[.pointer (some ⟨q, 0, none⟩)] 203)).alloc (.cells #[.int .i64 1, .int .u64 1, .string s, .nilIface] 85)) (.cells #[.pointer none] 203)
  simpa using this
 have hb : Below w.heap.size w W0 := by rw [hW0]; exact (((Below.refl _ _).alloc (Nat.le_refl _) _).alloc (by simp) _).alloc (by simp; omega) _
 have hsz : W0.heap.size = w.heap.size + 3 := by rw [hW0]; simp
 have HSZ := Lib.hid hsz
 have HD0 := Lib.hid (dig_keep h (fun b _ hb2 => hb.block b hb2))
 clear hW0 hsz h
 have a0 := blk_cell hz0 0 _ rfl
 have a1 := blk_cell hz1 0 _ rfl
 have a2 := blk_cell hz1 1 _ rfl
 have a3 := blk_cell hz1 2 _ rfl
 have a4 := blk_cell hz1 3 _ rfl
 go_upto_region 3 with (go_at_call 176; refine (c176 _ _ _ _).mono ?_; rintro e w1 ⟨rfl, hb1⟩)
 have hs0 := HSZ.out
 have hw1 := hb1.size
 have y0 := (hb1.block _ (by omega)).trans hz0
 have y1 := (hb1.block _ (by omega)).trans hz1
 have y2 := (hb1.block _ (by omega)).trans hz2
 have hd1 := dig_keep HD0.out (fun b _ hb2 => hb1.block b hb2)
 have b0 := blk_cell y0 0 _ rfl
 have C1 := Lib.hid (c177 B q bs 7953749933313450591 (by decide) w1 hd1 (by omega) (by omega))
 clear a0 a1 a2 a3 a4 hz0 hz1 hz2
 go_upto_region 5 with (first
  | (go_at_call 177; refine C1.out.mono ?_; rintro e w2 ⟨rfl, hd2, hb2, hk2⟩; have u0 := hk2.blk y0 (by omega) (by decide); have u1 := hk2.blk y1 (by omega) (by decide); have u2 := hk2.blk y2 (by omega) (by decide))
  | ((with_reducible apply arm_store_whole 1 info203 u0); rfl; rfl; rfl; rfl; rfl; intro w3 g1 g2 g3 g4))
 have hw2 := hk2.1
 have v1 := (g2 _ (by omega)).trans u1
 have v2 := (g2 _ (by omega)).trans u2
 have hd3 := dig_other hd2 u0 (by decide) (by omega) g2
 have d0 := blk_cell g1 0 _ rfl
 have d1 := blk_cell v1 0 _ rfl
 have d2 := blk_cell v1 1 _ rfl
 have d3 := blk_cell v1 2 _ rfl
 have d4 := blk_cell v1 3 _ rfl
 have hl2 : (bs ++ Lib.leBytes 8 7953749933313450591).length = bs.length + 8 := by simp [Lib.leBytes]
 have C2 := Lib.hid (c177 B q (bs ++ Lib.leBytes 8 7953749933313450591) 1 (by decide) w3 hd3 (by omega) (by omega))
 have K0 : Hid (Kept q w w3) := Lib.hid (kept_new (Kept.trans (Kept.trans (Kept.below hb) (Kept.below hb1)) hk2) g2 (by omega) g4)
 have L0 : Hid (Below B w w3) := Lib.hid (g3 _ _ (by omega) (((hb.trans (hb1.mono (by omega))).mono hB).trans hb2))
 clear y0 y1 y2 u1 u2 b0 hd1 hd2 hd3 hl2
 go_wp2_with (first
  | (go_at_call 177; refine C2.out.mono ?_; rintro e w4 ⟨rfl, hd4, hb4, hk4⟩; have r0 := hk4.blk g1 (by omega) (by decide); have r2 := hk4.blk v2 (by omega) (by decide))
  | ((with_reducible apply arm_store_whole 1 info203 r0); rfl; rfl; rfl; rfl; rfl; intro w5 p1 p2 p3 p4; have r5 := (p2 (w.heap.size + 1 + 1) (by omega)).trans r2; have s0 := blk_cell p1 0 _ rfl)
  | ((with_reducible apply arm_store_whole 1 info203 r5); rfl; rfl; rfl; rfl; rfl; intro w6 m1 m2 m3 m4))
 have hw4 := hk4.1
 refine bodyPost_ret (results_cell_row rfl _ _ _ _ _ _ _ rfl m1 Tryz.underlying203 rfl info203) rfl ⟨rfl, dig_other (dig_other hd4 r0 (by decide) (by omega) p2) r5 (by decide) (by omega) m2, m3 _ _ (by omega) (p3 _ _ (by omega) (L0.out.trans hb4)), kept_new (kept_new (Kept.trans K0.out hk4) p2 (by omega) p4) m2 (by omega) m4⟩
set_option maxHeartbeats 1000000 in
theorem c164B (B q : Nat) (bs : List UInt8) (k s : ByteArray) (w : World) (h : Dig w B q bs) (hB : B ≤ w.heap.size) (hl : bs.length + k.size + 16 + s.size ≤ 1000000) :
 Calls Tryz.prog 164 #[.agg #[.pointer (some ⟨q, 0, none⟩)], .agg (enc5 (strKVB k s)).toArray] w fun e w' => e = .returned (.agg #[.pointer (some ⟨q, 0, none⟩)]) ∧ Dig w' B q (bs ++ kvBytesB (strKVB k s)) ∧ Below B w w' ∧ Kept q w w' := by
 have hqs : q < w.heap.size := by obtain ⟨_, v, h2, _⟩ := h; exact (Array.getElem?_eq_some_iff.1 h2).1
 unfold enc5 strKVB
 go_enter Tryz.func164, Tryz.ntmps164
 go_upto_region 1 with fail
 obtain ⟨W0, hW0⟩ : ∃ W0, W0 = ((w.alloc (.cells #[.pointer (some ⟨q, 0, none⟩)] 203)).alloc (.cells #[.string k, .int .i64 1, .int .u64 1, .string s, .nilIface] 87)).alloc (.cells #[.pointer none] 203) := ⟨_, rfl⟩
 rw [← hW0]
 have hz0 : W0.heap[w.heap.size]? = some (.cells #[.pointer (some ⟨q, 0, none⟩)] 203 (0, 0)) := by
  rw [hW0, Below.heap_alloc _ _ _ (by simp; omega), Below.heap_alloc _ _ _ (by simp)]; exact heap_alloc_new w _
 have hz1 : W0.heap[w.heap.size + 1]? = some (.cells #[.string k, .int .i64 1, .int .u64 1, .string s, .nilIface] 87 (0, 0)) := by
  rw [hW0, Below.heap_alloc _ _ _ (by simp)]
  have := heap_alloc_new (w.alloc (.cells #[.pointer (some ⟨q, 0, none⟩)] 203)) (.cells #[.string k, .int .i64 1, .int .u64 1, .string s, .nilIface] 87)
  simpa using this
 have hz2 : W0.heap[w.heap.size + 1 + 1]? = some (.cells #[.pointer none] 203 (0, 0)) := by
  rw [hW0]
  have := heap_alloc_new ((w.alloc (.cells #[.pointer (some ⟨q, 0, none⟩)] 203)).alloc (.cells #[.string k, .int .i64 1, .int .u64 1, .string s, .nilIface] 87)) (.cells #[.pointer none] 203)
  simpa using this
 have hb : Below w.heap.size w W0 := by rw [hW0]; exact (((Below.refl _ _).alloc (Nat.le_refl _) _).alloc (by simp) _).alloc (by simp; omega) _
 have hsz : W0.heap.size = w.heap.size + 3 := by rw [hW0]; simp
 have hd0 := dig_keep h (fun b _ hb2 => hb.block b hb2)
 clear hW0 h
 have C1 := Lib.hid (c169 B q bs k W0 hd0 (by omega) (by omega))
 have HSZ := Lib.hid hsz
 clear hsz hd0
 have a0 := blk_cell hz0 0 _ rfl
 have a1 := blk_cell hz1 0 _ rfl
 go_upto_region 2 with (first
  | (go_at_call 169; refine C1.out.mono ?_; rintro e w2 ⟨rfl, hd2, hb2, hk2⟩; have hs0 := HSZ.out; have u0 := hk2.blk hz0 (by omega) (by decide); have u1 := hk2.blk hz1 (by omega) (by decide); have u2 := hk2.blk hz2 (by omega) (by decide))
  | ((with_reducible apply arm_store_whole 1 info203 u0); rfl; rfl; rfl; rfl; rfl; intro w3 g1 g2 g3 g4))
 have hw2 := hk2.1
 have v1 := (g2 (w.heap.size + 1) (by omega)).trans u1
 have v2 := (g2 (w.heap.size + 1 + 1) (by omega)).trans u2
 have hd3 := dig_other hd2 u0 (by decide) (by omega) g2
 have d0 := blk_cell g1 0 _ rfl
 have d1 := blk_cell v1 1 _ rfl
 have d2 := blk_cell v1 2 _ rfl
 have d3 := blk_cell v1 3 _ rfl
 have d4 := blk_cell v1 4 _ rfl
 have hl2 : (bs ++ k.data.toList).length = bs.length + k.size := by rw [List.length_append, Array.length_toList]; rfl
 have C2 := Lib.hid (c170B B q (bs ++ k.data.toList) s w3 hd3 (by omega) (by omega))
 have K0 : Hid (Kept q w w3) := Lib.hid (kept_new (Kept.trans (Kept.below hb) hk2) g2 (by omega) g4)
 have L0 : Hid (Below B w w3) := Lib.hid (g3 _ _ (by omega) ((hb.mono hB).trans hb2))
 clear u0 u1 u2 a0 a1 hz0 hz1 hz2 hd2 hd3 hl2
 go_wp2_with (first
  | (go_at_call 170; refine C2.out.mono ?_; rintro e w4 ⟨rfl, hd4, hb4, hk4⟩; have r2 := hk4.blk v2 (by omega) (by decide))
  | ((with_reducible apply arm_store_whole 1 info203 r2); rfl; rfl; rfl; rfl; rfl; intro w6 m1 m2 m3 m4))
 have hw4 := hk4.1
 refine bodyPost_ret (results_cell_row rfl _ _ _ _ _ _ _ rfl m1 Tryz.underlying203 rfl info203) rfl ⟨rfl, ?_, m3 _ _ (by omega) (L0.out.trans hb4), kept_new (Kept.trans K0.out hk4) m2 (by omega) m4⟩
 have := dig_other hd4 r2 (by decide) (by omega) m2
 simpa [kvBytesB] using this
set_option maxHeartbeats 1000000 in
theorem c153B (B q hq : Nat) (bs : List UInt8) (k s : ByteArray) (w : World) (h : Dig w B q bs) (hH : w.heap[hq]? = some (.cells #[.pointer (some ⟨q, 0, none⟩)] 294 (0, 0))) (hne : hq ≠ q) (hB : B ≤ w.heap.size) (hl : bs.length + k.size + 16 + s.size ≤ 1000000) :
 Calls Tryz.prog 153 #[.pointer (some ⟨hq, 0, none⟩), .agg (enc5 (strKVB k s)).toArray] w fun e w' => e = .returned (.tuple #[]) ∧ Dig w' B q (bs ++ kvBytesB (strKVB k s)) ∧ Below B w w' ∧ Kept q w w' := by
 have l5 : (enc5 (strKVB k s)).toArray.size = 5 := rfl
 have hqs : hq < w.heap.size := (Array.getElem?_eq_some_iff.1 hH).1
 obtain ⟨W0, hW0⟩ : ∃ W0, W0 = w.alloc (.cells (enc5 (strKVB k s)).toArray 87) := ⟨_, rfl⟩
 have hb : Below w.heap.size w W0 := ba hW0
 have hz : W0.heap[w.heap.size]? = some (.cells (enc5 (strKVB k s)).toArray 87 (0, 0)) := by rw [hW0]; exact heap_alloc_new w _
 have hz2 := (hb.block _ hqs).trans hH
 have C := Lib.hid (c164B B q bs k s W0.drew (dig_keep h (fun b _ hb2 => hb.block b hb2)) (by have := hb.size; show B ≤ W0.heap.size; omega) hl)
 have HW := Lib.hid hW0
 clear hW0
 unfold enc5 strKVB at *
 go_enter Tryz.func153, Tryz.ntmps153
 go_upto_region 1 with fail
 rw [← HW.out]
 refine wp_region_held_drew (S := fun w' => w'.heap[hq]? = some (.cells #[.pointer (some ⟨q, 0, none⟩)] 294 (0, 0)) ∧ w'.heap[w.heap.size]? = some (.cells #[.string k, .int .i64 1, .int .u64 1, .string s, .nilIface] 87 (0, 0))) (by kernel_rfl) ⟨hz2, hz⟩ (fun hHeld => ?_)
 refine tk 0 4 (v := .pointer (some ⟨hq, 0, none⟩)) (a' := ?_) rfl rfl ?_ ?_ rfl ?_
 rotate_left 1
 · intro w2 hSw; go_simp
 · simp only [sI, s0, sS]; exact rfl
 refine tk 1 5 (v := .pointer (some ⟨hq, 0, none⟩)) (a' := ?_) rfl rfl ?_ ?_ rfl ?_
 rotate_left 1
 · intro w2 hSw; go_simp
 · simp only [sI, s0, sS]; exact rfl
 refine tk 2 6 (v := .pointer (some ⟨hq, 0, none⟩)) (a' := ?_) rfl rfl ?_ ?_ rfl ?_
 rotate_left 1
 · intro w2 hSw; go_simp
 · simp only [sI, s0, sS]; exact rfl
 refine tk 3 7 (v := .agg #[.pointer (some ⟨q, 0, none⟩)]) (a' := ?_) rfl rfl ?_ ?_ rfl ?_
 rotate_left 1
 · intro w2 hSw; exact run_load_part (x := .tmp 6) (ty := 203) (pre := []) (mid := [.pointer (some ⟨q, 0, none⟩)]) (post := []) rfl rfl hSw.1 rfl 1 ⟨rfl, rfl⟩ info203 Tryz.underlying203 rfl
 · simp only [sI, s0, sS]; exact rfl
 refine tk 4 8 (v := .agg #[.string k, .int .i64 1, .int .u64 1, .string s, .nilIface]) (a' := ?_) rfl rfl ?_ ?_ rfl ?_
 rotate_left 1
 · intro w2 hSw; exact run_load_part (x := .tmp 3) (ty := 87) (pre := []) (mid := [.string k, .int .i64 1, .int .u64 1, .string s, .nilIface]) (post := []) rfl rfl hSw.2 rfl 5 ⟨rfl, rfl⟩ info87 Tryz.underlying87 rfl
 · simp only [sI, s0, sS]; exact rfl
 refine wpAnyH_ready (rs := [5]) (by kernel_rfl) (by simp) ?_
 refine ar1 rfl (fun K hK => ?_)
 go_simp
 refine C.out.mono ?_
 rintro e w1 ⟨rfl, hd1, hb1, hk1⟩
 try dsimp only
 refine hK.out _ _ ⟨hk1.blk hz2 hne (by decide), hk1.blk hz (by obtain ⟨_, v, h2, _⟩ := h; have := (Array.getElem?_eq_some_iff.1 h2).1; omega) (by decide)⟩ (fun hHeld => ?_)
 clear hK K
 refine wpAnyH_done (by kernel_rfl) ?_ _
 go_end0
 exact ⟨rfl, hd1, (below_drew (hb.mono hB)).trans hb1, Kept.trans (w1 := W0.drew) (Kept.below (w1 := W0) hb) hk1⟩
def allBytesB (l : List KV) : List UInt8 := (l.map kvBytesB).flatten
def hashKVsB (l : List KV) : Int := remap (sum64 (allBytesB l))
theorem isStr_eqB {x : KV} (h : IsStrB x) : x = strKVB x.key x.str := by
 obtain ⟨k, t, n, s⟩ := x
 obtain ⟨rfl, rfl⟩ := h
 rfl
theorem kvBytes_lenB (x : KV) (h : x.key.size ≤ 100 ∧ x.str.size ≤ 100) : (kvBytesB x).length ≤ 208 := by
 unfold kvBytesB
 have h1 : x.key.data.toList.length = x.key.size := by simp
 have h3 : (Lib.leBytes 8 7953749933313450591).length = 8 := by decide
 have h4 : (Lib.leBytes 8 1).length = 8 := by decide
 simp only [List.length_append, h1, h3, h4]
 omega
theorem allBytes_lenB : ∀ (l : List KV), (∀ x ∈ l, x.key.size ≤ 100 ∧ x.str.size ≤ 100) → (allBytesB l).length ≤ 208 * l.length
 | [], _ => by simp [allBytesB]
 | x :: l, h => by
  have h1 := kvBytes_lenB x (h x (by simp))
  have h2 := allBytes_lenB l fun y hy => h y (by simp [hy])
  have : (allBytesB (x :: l)).length = (kvBytesB x).length + (allBytesB l).length := by simp [allBytesB]
  rw [this, List.length_cons]
  omega
theorem allBytes_takeB (l : List KV) (k : Nat) (x : KV) (h : l[k]? = some x) : allBytesB (l.take (k + 1)) = allBytesB (l.take k) ++ kvBytesB x := by
 obtain ⟨hk, rfl⟩ := List.getElem?_eq_some_iff.1 h
 rw [List.take_succ_eq_append_getElem hk]
 simp only [allBytesB, List.map_append, List.flatten_append, List.map_cons, List.map_nil, List.flatten_cons, List.flatten_nil, List.append_nil]
set_option maxRecDepth 100000 in
set_option maxHeartbeats 1000000 in
theorem c134B (A : Option Addr) (n c : Nat) (l : List KV) (w : World) (h : Rd w w.heap.size 5 A n c (l.map enc5)) (hs : ∀ x ∈ l, IsStrB x) (hz : ∀ x ∈ l, x.key.size ≤ 100 ∧ x.str.size ≤ 100) (h8 : n ≤ 8) :
 Calls Tryz.prog 134 #[.slice A n c] w fun e w' => e = .returned (.int .u64 (hashKVsB l)) ∧ Below w.heap.size w w' := by
 have hlen := h.numlen
 have H := Lib.hid h
 have HS := Lib.hid hs
 have HZ := Lib.hid hz
 have HLEN := Lib.hid hlen
 clear h hs hz hlen
 go_enter Tryz.func134, Tryz.ntmps134
 go_upto_region 3 with (go_at_call 152; refine (c152 _).mono ?_; rintro e w1 ⟨hq, q, rfl, hd, hH, hne, hge, hb1⟩)
 have HHQ := Lib.hid hH
 have HD := Lib.hid hd
 have HB := Lib.hid hb1
 clear hH hd hb1
 go_loopw [9] (fun i wr => ∃ k : Nat, k ≤ n ∧ i = .int .i64 k ∧ Dig wr w.heap.size q (allBytesB (l.take k)) ∧ wr.heap[hq]? = some (.cells #[.pointer (some ⟨q, 0, none⟩)] 294 (0, 0)) ∧ Below w.heap.size w wr) (fun i _ => n - (intOf i).toNat)
 case atStart => exact ⟨0, Nat.zero_le _, rfl, HD.out, HHQ.out, HB.out⟩
 case round => (
 obtain ⟨k, hk, rfl, hd, hH, hb⟩ := hrel
 obtain ⟨wo, rfl⟩ : ∃ wo : World, wo = wr := ⟨_, rfl⟩
 have hbs := hb.size
 have HHK := Lib.hid hH
 have HDK := Lib.hid hd
 have HBK := Lib.hid hb
 have hln : (allBytesB (l.take k)).length ≤ 208 * (l.take k).length := allBytes_lenB _ fun x hx => HZ.out x (List.mem_of_mem_take hx)
 have hlt8 : (l.take k).length ≤ 8 := by rw [List.length_take]; have := HLEN.out; omega
 have hbl : (allBytesB (l.take k)).length ≤ 1664 := by omega
 have HBL := Lib.hid hbl
 clear hln hlt8 hbl
 by_cases hlt : k < n
 · (
 obtain ⟨b, o, r, rfl, hbB, hx, _, ca⟩ := (H.out.below hb).at_ hlt
 rw [List.getElem?_map, Option.map_eq_some_iff] at hx
 obtain ⟨x, hx, rfl⟩ := hx
 have hxs := HZ.out x (List.mem_of_getElem? hx)
 have hxe := isStr_eqB (HS.out x (List.mem_of_getElem? hx))
 obtain ⟨cx, hcx⟩ : ∃ cx, cx = (enc5 x).toArray := ⟨_, rfl⟩
 have sx : cx.size = 5 := by rw [hcx]; rfl
 have oc1 : cx.toList.all (·.oneCell') = true := by rw [hcx]; rfl
 have ca2 : wo.rangeAt b (o + k * 5) cx.toList := by rw [hcx]; exact ca
 have hbn : Below wo.heap.size wo (wo.alloc (.cells cx 87)) := (Below.refl _ _).alloc (Nat.le_refl _) _
 have hqlt : hq < wo.heap.size := (Array.getElem?_eq_some_iff.1 hH).1
 have hH2 := (hbn.block _ hqlt).trans hH
 have hd2 := dig_keep hd (fun b _ hb2 => hbn.block b hb2)
 have z1 : (wo.alloc (.cells cx 87)).heap[wo.heap.size]? = some (.cells cx 87 (0, 0)) := heap_alloc_new wo _
 have hqq : q < (wo.alloc (.cells cx 87)).heap.size := by obtain ⟨_, v, h2, _⟩ := hd2; exact (Array.getElem?_eq_some_iff.1 h2).1
 have C := Lib.hid (c153B w.heap.size q hq (allBytesB (l.take k)) x.key x.str (wo.alloc (.cells cx 87)) hd2 hH2 hne (by have := hbn.size; omega) (by have := HBL.out; omega))
 rw [← hxe, ← hcx] at C
 have HBT := Lib.hid (allBytes_takeB l k x hx)
 have HBN := Lib.hid hbn
 have HH2 := Lib.hid hH2
 have hi0 : (0 : Int) ≤ (k : Int) := by omega
 have hi1 : (k : Int) < (n : Int) := by omega
 clear hd hH hb hx hcx hxe ca hbn hH2 hd2 hqq
 go_wp2_with (first
  | (go_at_call 153; refine C.out.mono ?_; rintro e w1 ⟨rfl, hd1, hb1, hk1⟩)
  | ((with_reducible refine arm_load_all 5 info87 Tryz.underlying87 z1 ?_ ?_ ?_ ?_); rfl; rfl; exact sx)
  | ((with_reducible refine arm_load ca2 ?_ 5 info87 Tryz.underlying87 ?_ ?_ ?_); rfl; rfl; exact sx)
  | ((with_reducible apply arm_store_new 5 info87); rfl; simp; rfl; rfl; assumption; assumption))
 go_roundw
 case rel => exact ⟨k + 1, by omega, by go_num, by rw [HBT.out]; exact hd1, hk1.blk HH2.out hne (by decide), (HBK.out.trans (HBN.out.mono hbs)).trans hb1⟩
 case measure => simp [intOf]; omega)
 · (
 obtain rfl : k = n := by omega
 have htk : l.take k = l := List.take_of_length_le (by have := HLEN.out; omega)
 rw [htk] at HDK HBL
 have C := Lib.hid (c154 w.heap.size q hq (allBytesB l) wo HDK.out hH (by have := HBL.out; omega))
 have hf := fld93
 clear hd hH hb htk
 go_wp2_with (go_at_call 154; refine C.out.mono ?_; rintro e w1 ⟨rfl, hb1⟩)
 go_ret
 exact ⟨rfl, below_then HBK.out hbs hb1⟩))
/-- The attributes of a set, in memory. -/
structure SetRB (w : World) (B : Nat) (s : Sl) (l : List KV) : Prop where
 rd : Rd w B 5 s.A s.n s.c (l.map enc5)
 str : ∀ x ∈ l, IsStrB x
 small : ∀ x ∈ l, x.key.size ≤ 100 ∧ x.str.size ≤ 100
 len : l.length ≤ 8
theorem SetRB.below {w w' : World} {B : Nat} {s : Sl} {l : List KV} (h : SetRB w B s l) (hb : Below B w w') : SetRB w' B s l := ⟨h.rd.below hb, h.str, h.small, h.len⟩
theorem SetRB.more {w : World} {B B' : Nat} {s : Sl} {l : List KV} (h : SetRB w B s l) (hB : B ≤ B') : SetRB w B' s l := ⟨h.rd.more hB, h.str, h.small, h.len⟩
theorem setR_of_ownB {w : World} {B n : Nat} {v : Value} {l : List KV} (h : w.ownsRow B 87 5 v n (l.map enc5).flatten) (hl : l.length = n) (hs : ∀ x ∈ l, IsStrB x) (hz : ∀ x ∈ l, x.key.size ≤ 100 ∧ x.str.size ≤ 100) (h8 : n ≤ 8) :
 ∃ s : Sl, v = .slice s.A s.n s.c ∧ s.n = n ∧ SetRB w w.heap.size s l ∧ ∀ b o t, s.A = some ⟨b, o, t⟩ → B ≤ b := by
 obtain ⟨A, c, rfl, hr, hn⟩ := rd_of_own h (enc5_rows l) (by simpa using hl) (by omega)
 exact ⟨⟨A, n, c⟩, rfl, rfl, ⟨hr, hs, hz, by omega⟩, fun b o t h => (hn b o t h).1⟩
/-- A set in memory that is newer than a world. -/
structure SetNewB (w0 w : World) (s : Sl) (l : List KV) : Prop where
 set : SetRB w w.heap.size s l
 new : ∀ b o t, s.A = some ⟨b, o, t⟩ → w0.heap.size ≤ b
theorem SetNewB.older {w0 w1 w : World} {s : Sl} {l : List KV} (h : SetNewB w1 w s l) (hs : w0.heap.size ≤ w1.heap.size) : SetNewB w0 w s l := ⟨h.set, fun b o t e => Nat.le_trans hs (h.new b o t e)⟩
theorem SetNewB.below {w0 w w' : World} {s : Sl} {l : List KV} (h : SetNewB w0 w s l) (hb : Below w.heap.size w w') : SetNewB w0 w' s l := ⟨(h.set.below hb).more hb.size, h.new⟩
/-- What is stored into an older block leaves it alone. -/
theorem SetNewB.stored {w0 w w' : World} {s : Sl} {l : List KV} (h : SetNewB w0 w s l) {x : Nat} (hx : x < w0.heap.size) (hk : ∀ b, b ≠ x → w'.heap[b]? = w.heap[b]?) (hs : w'.heap.size = w.heap.size) : SetNewB w0 w' s l := by
 refine ⟨⟨⟨h.set.rd.len, h.set.rd.cap, h.set.rd.top, h.set.rd.ctop, h.set.rd.row, fun hn => ?_⟩, h.set.str, h.set.small, h.set.len⟩, h.new⟩
 obtain ⟨b, o, hA, hb, hc⟩ := h.set.rd.mem hn
 have hge := h.new b o none hA
 refine ⟨b, o, hA, by omega, fun j v hv => ?_⟩
 have := hc j v hv
 have e : w'.cell? ⟨b, o + j, none⟩ = w.cell? ⟨b, o + j, none⟩ := by simp [World.cell?, hk b (by omega)]
 rw [e]
 exact this
set_option maxHeartbeats 1000000 in
theorem c89B (A : Option Addr) (n c : Nat) (l : List KV) (w : World) (h : Rd w w.heap.size 5 A n c (l.map enc5)) (hs : ∀ x ∈ l, IsStrB x) (hz : ∀ x ∈ l, x.key.size ≤ 100 ∧ x.str.size ≤ 100) (h8 : n ≤ 8) (hn : 0 < n) :
 Calls Tryz.prog 89 #[.slice A n c] w fun e w' => ∃ s : Sl, e = .returned (.agg #[.int .u64 (hashKVsB l), .slice s.A s.n s.c]) ∧ SetNewB w w' s l ∧ Below w.heap.size w w' := by
 have hlen := h.numlen
 obtain ⟨b, o, rfl, hbB, _⟩ := h.mem hn
 obtain ⟨W0, hW0⟩ : ∃ W0, W0 = w.alloc (.cells #[.int .u64 0, .slice none 0 0] 80) := ⟨_, rfl⟩
 have hb : Below w.heap.size w W0 := ba hW0
 have hzb : W0.heap[w.heap.size]? = some (.cells #[.int .u64 0, .slice none 0 0] 80 (0, 0)) := by rw [hW0]; exact heap_alloc_new w _
 have hs0 : w.heap.size < W0.heap.size := by rw [hW0]; simp
 have h0 := (h.below hb).more hb.size
 have C := Lib.hid (c134B (some ⟨b, o, none⟩) n c l W0 h0 hs hz h8)
 have HR := Lib.hid h0
 have HW := Lib.hid hW0
 have HB := Lib.hid hb
 have HZB := Lib.hid hzb
 have HS := Lib.hid hs
 have HZ := Lib.hid hz
 have HLEN := Lib.hid hlen
 obtain ⟨i0, hi, hz0, hz1, hz2⟩ := info_parts3 info87z
 have HI := Lib.hid (And.intro hi (And.intro hz0 (And.intro hz1 hz2)))
 clear hW0 hb hzb h h0 hs hz hlen hi hz0 hz1 hz2
 go_enter Tryz.func89, Tryz.ntmps89
 go_upto_region 1 with fail
 rw [← HW.out]
 go_wp2_with (first
  | (go_at_call 134; refine C.out.mono ?_; rintro e w1 ⟨rfl, hb1⟩; have hz1 : w1.heap[w.heap.size]? = _ := (hb1.block _ hs0).trans HZB.out; have hr1 := Lib.hid ((HR.out.below hb1).src _ rfl))
  | (at_builtin; go_loud ((refine wpList_append_own_at _ rfl _ _ 78 rfl w1.heap.size 87 i0 _ 5 64 Tryz.underlying78 HI.out.1 HI.out.2.1 HI.out.2.2.1 HI.out.2.2.2 rfl (by decide) _ 0 [] rfl (own_empty w1 87 5 w1.heap.size (Nat.le_refl _)) ⟨b, o, none⟩ n c (l.map enc5).flatten rfl hr1.out.1 ?_ (one_enc5 l) ?_ ?_ ?_ ?_); (exact fun j u hu => keep_alloc (hr1.out.2 j u hu) _); (simp only [maxLen]; omega); omega; simp; intro v2 w2 hown2 hg2 _ _; obtain ⟨A2, c2, rfl⟩ := own_slice hown2; have hz2 := (hg2.block w.heap.size (by have := hb1.size; rw [World.size_alloc]; omega) (by show some w.heap.size ≠ some w1.heap.size; intro he; injection he with he; have := hb1.size; omega)).trans ((Below.heap_alloc _ _ _ (Array.getElem?_eq_some_iff.1 hz1).1).trans hz1)))
  | ((with_reducible apply arm_store_whole 2 info80 hz2); rfl; rfl; rfl; rfl; rfl; intro w3 g1 g2 g3 g4))
 have hl1 := hb1.size
 have hbw : Below w.heap.size w w2 := by
  refine ((below_then HB.out HB.out.size hb1).alloc (by omega) _).grown hg2 (by simp; omega) (fun k hk => ?_)
  have hk' : some w1.heap.size = some k := hk
  injection hk' with hk'
  omega
 have hown3 : w3.ownsRow w1.heap.size 87 5 (.slice A2 (0 + n) c2) (0 + n) (l.map enc5).flatten := own_of_block (by simpa using hown2) (fun g hg => g2 g (by have := own_ge hown2 hg; omega))
 obtain ⟨s, hs1, hs2, hs3, hs4⟩ := setR_of_ownB hown3 (by have := HLEN.out; omega) HS.out HZ.out (by omega)
 refine bodyPost_ret (results_cell_row rfl _ _ _ _ _ _ _ rfl g1 Tryz.underlying80 rfl info80) rfl ⟨s, by rw [← hs1, Nat.zero_add], ⟨hs3, fun b o t h => by have := hs4 b o t h; omega⟩, g3 _ _ (Nat.le_refl _) hbw⟩
open Go.Sort
set_option maxRecDepth 100000 in
set_option maxHeartbeats 2000000 in
theorem c51B (B g cap n : Nat) (l : List KV) (w : World) (hown : w.ownsRow B 87 5 (.slice (some ⟨g, 0, none⟩) n cap) n (l.map enc5).flatten) (hB : B ≤ w.heap.size) (hl : l.length = n) (hn : 0 < n) (h8 : n ≤ 8)
 (hs : ∀ x ∈ sortK l, IsStrB x) (hz : ∀ x ∈ sortK l, x.key.size ≤ 100 ∧ x.str.size ≤ 100) (hd : ∀ (i : Nat) (x y : KV), (sortK l)[i]? = some x → (sortK l)[i + 1]? = some y → x.key.toList ≠ y.key.toList) :
 Calls Tryz.prog 51 #[.slice (some ⟨g, 0, none⟩) n cap, .nilFunc] w fun e w' => ∃ s : Sl, e = .returned (.tuple #[.agg #[.int .u64 (hashKVsB (sortK l)), .slice s.A s.n s.c], .slice none 0 0]) ∧ SetNewB w w' s (sortK l) ∧ w.grownBy w' (some g) := by
 obtain ⟨hBg, hglt, hnc, hcm⟩ : B ≤ g ∧ g < w.heap.size ∧ n ≤ cap ∧ cap ≤ maxLen := by
  obtain ⟨g', c', h1, h2, h3, h4, h5⟩ := own_some hown hn
  simp only [Value.slice.injEq, Option.some.injEq, Addr.mk.injEq, and_true, true_and] at h1
  obtain ⟨rfl, rfl⟩ := h1
  exact ⟨h2, h3, h4, h5⟩
 obtain ⟨W0, hW0⟩ : ∃ W0, W0 = w.alloc (.cells #[.int .u64 0, .slice none 0 0] 80) := ⟨_, rfl⟩
 have hb : Below w.heap.size w W0 := ba hW0
 have hzb : W0.heap[w.heap.size]? = some (.cells #[.int .u64 0, .slice none 0 0] 80 (0, 0)) := by rw [hW0]; exact heap_alloc_new w _
 have hs0 : w.heap.size < W0.heap.size := by rw [hW0]; simp
 have hH : HoldsK enc5 5 W0 g 0 l.toArray := holdsK_of_own enc5 (fun _ => rfl) l.toArray (own_of_block hown (fun g' hg' => hb.block g' (hown.lt g' hg').2)) (by simpa using hl) hn
 have C := Lib.hid (c85 g 0 cap n l.toArray W0 hH (by omega) (by simpa using hl) (by omega))
 have HH := Lib.hid hH
 have HW := Lib.hid hW0
 have HB := Lib.hid hb
 have HZB := Lib.hid hzb
 have HS := Lib.hid hs
 have HZ := Lib.hid hz
 have HD := Lib.hid hd
 have HCM := Lib.hid hcm
 have hlen : (sortK l).length = n := by rw [length_sortK]; exact hl
 have HLEN := Lib.hid hlen
 clear hW0 hb hzb hs hz hd hown hH hlen hcm
 have f1 : ¬ n = 0 := by omega
 have f2 : ¬ (n : Int) = 0 := by omega
 go_enter Tryz.func51, Tryz.ntmps51
 go_upto_region 1 with fail
 rw [← HW.out]
 go_upto_region 4 with (go_at_call 85; refine C.out.mono ?_; rintro e w1 ⟨rfl, m, os, hw1⟩; have HW1 := Lib.hid hw1; clear hw1)
 have hw1 := HW1.out
 have hsz : (sortA l.toArray).size = l.toArray.size := size_sortA _
 have hsw : W0.heap.size ≤ w1.heap.size := by rw [hw1]; exact size_sortWorldK_c enc5 5 W0 g 0 m _ os
 have hk := holdsK_sortWorldK_c enc5 5 W0 g 0 l.toArray (sortA l.toArray) m os HH.out (by omega) hsz
 rw [← hw1] at hk
 have hrd : Rd w1 w1.heap.size 5 (some ⟨g, 0, none⟩) n cap ((sortK l).map enc5) := rd_of_holdsK enc5 (fun _ => rfl) _ hk (by rw [hsz]; simpa using hl) (by omega) hnc (by omega) (by have := HCM.out; simpa [maxLen] using this)
 have hb1 : Below B w w1 := by
  rw [hw1]
  exact below_sortWorldK enc5 5 (HB.out.mono hB) (by omega) hBg 0 m _ os
 have hz1 : w1.heap[w.heap.size]? = some (.cells #[.int .u64 0, .slice none 0 0] 80 (0, 0)) := by
  rw [hw1, blk_sortWorldK enc5 5 W0 g 0 m _ os _ hs0 (by omega)]
  exact HZB.out
 have hfr : ∀ (k i : Nat), k < n → i < 5 → w1.frozen? ⟨g, k * 5 + i, none⟩ = false := by
  intro k i hk1 hi1
  have := (hk (k * 5 + i) (by rw [size_flatK, hsz]; simp; omega)).2
  simpa using this
 have hblk : ∀ k, k < w.heap.size → k ≠ g → w1.heap[k]? = w.heap[k]? := fun k hk1 hk2 => by
  rw [hw1, blk_sortWorldK enc5 5 W0 g 0 m _ os _ (by omega) hk2]
  exact HB.out.block k hk1
 have HBLK := Lib.hid hblk
 clear hblk
 have HK := Lib.hid hrd
 have HFR := Lib.hid hfr
 have HB1 := Lib.hid hb1
 have HZ1 := Lib.hid hz1
 have HSW := Lib.hid hsw
 clear hw1 HW1 hk hrd hb1 hz1 hsz hfr hsw HH C
 obtain ⟨N, rfl⟩ : ∃ N, n = N + 1 := ⟨n - 1, by omega⟩
 go_upto_region 6 with fail
 go_loopw [6, 7] (fun s6 s7 wr => ∃ j : Nat, j ≤ N ∧ s6 = .int .i64 j ∧ s7 = .int .i64 ((j : Int) - 1) ∧ wr.heap = w1.heap ∧ Below w1.heap.size w1 wr) (fun s6 _ _ => (intOf s6).toNat)
 case atStart => exact ⟨N, Nat.le_refl _, by go_num, by go_num, rfl, Below.refl _ _⟩
 case round => (
 obtain ⟨j, hj, rfl, rfl, hheap, hbw⟩ := hrel
 obtain ⟨wo, rfl⟩ : ∃ wo : World, wo = wr := ⟨_, rfl⟩
 have HHEAP := Lib.hid hheap
 have HBW := Lib.hid hbw
 clear hheap hbw
 cases j with
 | zero =>
  have hrw : Rd wo wo.heap.size 5 (some ⟨g, 0, none⟩) (N + 1) cap ((sortK l).map enc5) := HK.out.keep (fun b o _ => cell_heap HHEAP.out _) (by rw [HHEAP.out]; exact Nat.le_refl _)
  have hzw : wo.heap[w.heap.size]? = some (.cells #[.int .u64 0, .slice none 0 0] 80 (0, 0)) := by rw [HHEAP.out]; exact HZ1.out
  have C := Lib.hid (c89B (some ⟨g, 0, none⟩) (N + 1) cap (sortK l) wo hrw HS.out HZ.out h8 (by omega))
  have hlw : w.heap.size < wo.heap.size := (Array.getElem?_eq_some_iff.1 hzw).1
  have HZW := Lib.hid hzw
  clear hrw hzw
  have nf := nf193
  have q0 : (0 : Int) ≤ ((N + 1 : Nat) : Int) := by omega
  go_wp2_with (first
   | (go_at_call 89; refine C.out.mono ?_; rintro e w2 ⟨s, rfl, hset, hb2⟩; have hz2 : w2.heap[w.heap.size]? = _ := (hb2.block _ hlw).trans HZW.out)
   | ((with_reducible apply arm_store_whole 2 info80 hz2); rfl; rfl; rfl; rfl; rfl; intro w3 g1 g2 g3 g4))
  refine bodyPost_ret (results_row_tmp rfl _ _ _ _ _ _ _ rfl g1 Tryz.underlying80 rfl info80) rfl ⟨s, rfl, (hset.stored hlw g2 g4).older (Nat.le_of_lt hlw), ?_⟩
  have h1 : Below B w wo := HB1.out.trans (HBW.out.mono (by have := HSW.out; omega))
  have h2 : Below B w w3 := g3 _ _ hB (below_then h1 (by omega) hb2)
  refine ⟨h2.os, h2.tape, h2.output, by have := hb2.size; omega, fun k hk1 hk2 => ?_⟩
  rw [g2 k (by omega), hb2.block k (by omega), HHEAP.out]
  exact HBLK.out k hk1 (fun e => hk2 (by rw [e]))
 | succ k =>
  rw [show (((k + 1 : Nat) : Int) - 1) = (k : Int) by omega]
  have hrx0 := HK.out.at_ (i := k) (by omega)
  obtain ⟨_, _, r, hA, _, hx, _, hr⟩ := hrx0
  injection hA with hA
  injection hA with h1 h2 _
  subst h1 h2
  rw [List.getElem?_map, Option.map_eq_some_iff] at hx
  obtain ⟨x, hx, rfl⟩ := hx
  have hry0 := HK.out.at_ (i := k + 1) (by omega)
  obtain ⟨_, _, r, hA, _, hy, _, hr2⟩ := hry0
  injection hA with hA
  injection hA with h1 h2 _
  subst h1 h2
  rw [List.getElem?_map, Option.map_eq_some_iff] at hy
  obtain ⟨y, hy, rfl⟩ := hy
  have hne := HD.out k x y hx hy
  rw [Nat.zero_add] at hr hr2
  have hrx : wo.rangeAt g (k * 5) (enc5 x) := fun t u ht => (cell_heap HHEAP.out _).trans (hr t u ht)
  have hk0 : wo.cell? ⟨g, k * 5, none⟩ = some (.string x.key) := by have := hrx 0 _ rfl; rwa [Nat.add_zero] at this
  have hk1 : wo.cell? ⟨g, (k + 1) * 5, none⟩ = some (.string y.key) := by have := (cell_heap HHEAP.out _).trans (hr2 0 _ rfl); rwa [Nat.add_zero] at this
  have heq : (x.key.toList == y.key.toList) = false := by simpa using hne
  have hth : wo.there g (k * 5) 5 := fun t ht => ⟨by rw [hrx t _ (List.getElem?_eq_getElem (show t < (enc5 x).length from ht))]; rfl, (frozen_heap HHEAP.out _).trans (HFR.out k t (by omega) ht)⟩
  have HTH := Lib.hid hth
  have HRX := Lib.hid hrx
  clear hth
  clear hx hy hr hr2 hrx
  have i0 : (0 : Int) ≤ (k : Int) := by omega
  have i1 : (k : Int) < ((N + 1 : Nat) : Int) := by omega
  have i2 : (0 : Int) ≤ ((k + 1 : Nat) : Int) := by omega
  have i3 : ((k + 1 : Nat) : Int) < ((N + 1 : Nat) : Int) := by omega
  go_upto_region 8 with fail
  go_quiet (fail)
  go_upto_region 10 with fail
  refine wp_region_held_drew (S := fun w' => w'.rangeAt g (k * 5) (enc5 x) ∧ w'.there g (k * 5) 5) (by kernel_rfl) ⟨HRX.out, HTH.out⟩ (fun hHeld => ?_)
  refine tk 0 37 (v := .slice (some ⟨g, 0, none⟩) (N + 1) cap) (a' := ?_) rfl rfl ?_ ?_ rfl ?_
  rotate_left 1
  · intro w2 hSw; go_simp
  · simp only [sI, s0, sS]; exact rfl
  refine tk 1 38 (v := .int .i64 (k : Int)) (a' := ?_) rfl rfl ?_ ?_ rfl ?_
  rotate_left 1
  · intro w2 hSw; go_simp
  · simp only [sI, s0, sS]; exact rfl
  refine tk 2 39 (v := .slice (some ⟨g, 0, none⟩) (N + 1) cap) (a' := ?_) rfl rfl ?_ ?_ rfl ?_
  rotate_left 1
  · intro w2 hSw; go_simp
  · simp only [sI, s0, sS]; exact rfl
  refine tk 3 40 (v := .int .i64 (k : Int)) (a' := ?_) rfl rfl ?_ ?_ rfl ?_
  rotate_left 1
  · intro w2 hSw; go_simp
  · simp only [sI, s0, sS]; exact rfl
  refine tk 4 41 (v := .slice (some ⟨g, 0, none⟩) (N + 1) cap) (a' := ?_) rfl rfl ?_ ?_ rfl ?_
  rotate_left 1
  · intro w2 hSw; go_simp
  · simp only [sI, s0, sS]; exact rfl
  refine tk 5 42 (v := .int .i64 (k : Int)) (a' := ?_) rfl rfl ?_ ?_ rfl ?_
  rotate_left 1
  · intro w2 hSw; go_simp
  · simp only [sI, s0, sS]; exact rfl
  refine tk 6 43 (v := .pointer (some ⟨g, k * 5, none⟩)) (a' := ?_) rfl rfl ?_ ?_ rfl ?_
  rotate_left 1
  · intro w2 hSw; go_simp; intro h; omega
  · simp only [sI, s0, sS]; exact rfl
  refine tk 7 44 (v := .agg (enc5 x).toArray) (a' := ?_) rfl rfl ?_ ?_ rfl ?_
  rotate_left 1
  · intro w2 hSw; exact run_load_at rfl hSw.1 rfl Tryz.underlying87 rfl info87
  · simp only [sI, s0, sS]; exact rfl
  refine tk 8 45 (v := .slice (some ⟨g, 0, none⟩) (N + 1) cap) (a' := ?_) rfl rfl ?_ ?_ rfl ?_
  rotate_left 1
  · intro w2 hSw; go_simp
  · simp only [sI, s0, sS]; exact rfl
  refine tk 9 46 (v := .int .i64 (k : Int)) (a' := ?_) rfl rfl ?_ ?_ rfl ?_
  rotate_left 1
  · intro w2 hSw; go_simp
  · simp only [sI, s0, sS]; exact rfl
  refine tk 10 47 (v := .pointer (some ⟨g, k * 5, none⟩)) (a' := ?_) rfl rfl ?_ ?_ rfl ?_
  rotate_left 1
  · intro w2 hSw; go_simp; intro h; omega
  · simp only [sI, s0, sS]; exact rfl
  refine tk 11 48 (v := .agg (enc5 x).toArray) (a' := ?_) rfl rfl ?_ ?_ rfl ?_
  rotate_left 1
  · intro w2 hSw; exact run_load_at rfl hSw.1 rfl Tryz.underlying87 rfl info87
  · simp only [sI, s0, sS]; exact rfl
  refine tk 12 49 (v := .pointer (some ⟨g, k * 5, none⟩)) (a' := ?_) rfl rfl ?_ ?_ rfl ?_
  rotate_left 1
  · intro w2 hSw; go_simp; intro h; omega
  · simp only [sI, s0, sS]; exact rfl
  refine wpAnyH_ready (rs := [13]) (by kernel_rfl) (by simp) ?_
  refine ar1 rfl (fun K hK => ?_)
  refine store_noop 87 (.tmp 49) (.tmp 44) rfl rfl (cs := (enc5 x).toArray) (b := g) (o := k * 5) rfl rfl hHeld.1 hHeld.2 info87 rfl _ (by kernel_rfl) ?_
  refine hK.out _ _ hHeld (fun hHeld => ?_)
  clear hK K
  refine tk 14 50 (v := .pointer (some ⟨g, k * 5, none⟩)) (a' := ?_) rfl rfl ?_ ?_ rfl ?_
  rotate_left 1
  · intro w2 hSw; go_simp; intro h; omega
  · simp only [sI, s0, sS]; exact rfl
  refine wpAnyH_ready (rs := [15]) (by kernel_rfl) (by simp) ?_
  refine ar1 rfl (fun K hK => ?_)
  refine store_noop 87 (.tmp 50) (.tmp 48) rfl rfl (cs := (enc5 x).toArray) (b := g) (o := k * 5) rfl rfl hHeld.1 hHeld.2 info87 rfl _ (by kernel_rfl) ?_
  refine hK.out _ _ hHeld (fun hHeld => ?_)
  clear hK K
  refine wpAnyH_done (by kernel_rfl) ?_ _
  go_wp2_with fail
  go_roundw
  case rel => exact ⟨k, by omega, rfl, by go_num, HHEAP.out, below_drew (below_drewN HBW.out _)⟩
  case measure => simp [intOf])
set_option maxHeartbeats 1000000 in
theorem c34_ofB (v : Value) (row : Option Nat) (S : List KV) (H : Int) (w : World) (hrow : ∀ g, row = some g → g < w.heap.size)
 (C : ∀ W, Below w.heap.size w W → Calls Tryz.prog 51 #[v, .nilFunc] W fun e w' => ∃ s : Sl, e = .returned (.tuple #[.agg #[.int .u64 H, .slice s.A s.n s.c], .slice none 0 0]) ∧ SetNewB W w' s S ∧ W.grownBy w' row) :
 Calls Tryz.prog 34 #[v] w fun e w' => ∃ s : Sl, e = .returned (.agg #[.int .u64 H, .slice s.A s.n s.c]) ∧ SetNewB w w' s S ∧ w.grownBy w' row := by
 obtain ⟨W0, hW0⟩ : ∃ W0, W0 = w.alloc (.cells #[.int .u64 0, .slice none 0 0] 80) := ⟨_, rfl⟩
 have hb : Below w.heap.size w W0 := ba hW0
 have hzb : W0.heap[w.heap.size]? = some (.cells #[.int .u64 0, .slice none 0 0] 80 (0, 0)) := by rw [hW0]; exact heap_alloc_new w _
 have hs0 : w.heap.size < W0.heap.size := by rw [hW0]; simp
 have hne : some w.heap.size ≠ row := fun e => by have := hrow _ e.symm; omega
 have HW := Lib.hid hW0
 have HB := Lib.hid hb
 have HZB := Lib.hid hzb
 have C0 := Lib.hid (C W0 hb)
 clear hW0 hb hzb C
 go_enter Tryz.func34, Tryz.ntmps34
 go_upto_region 1 with fail
 rw [← HW.out]
 go_wp2_with (first
  | (go_at_call 51; refine C0.out.mono ?_; rintro e w2 ⟨s, rfl, hset, hg2⟩; have hz2 := (hg2.block _ hs0 hne).trans HZB.out; have hz3 : (w2.alloc (.cells #[.int .u64 H, .slice s.A s.n s.c] 80)).heap[w.heap.size]? = _ := (Below.heap_alloc _ _ _ (Array.getElem?_eq_some_iff.1 hz2).1).trans hz2)
  | ((with_reducible apply arm_store_new 2 info80); rfl; simp; rfl; rfl; rfl; rfl)
  | ((with_reducible apply arm_load_top 2 info80 Tryz.underlying80); rfl; rfl; simp; rfl)
  | ((with_reducible apply arm_store_whole 2 info80 hz3); rfl; rfl; rfl; rfl; rfl; intro w3 g1 g2 g3 g4))
 have hs2 := hg2.size
 refine bodyPost_ret (results_cell_row rfl _ _ _ _ _ _ _ rfl g1 Tryz.underlying80 rfl info80) rfl ⟨s, rfl, ?_, ?_⟩
 · exact ((hset.below ((Below.refl _ _).alloc (Nat.le_refl _) _)).stored hs0 g2 g4).older (Nat.le_of_lt hs0)
 · exact grownBy_stored (grownBy_trans (grownBy_of_below HB.out row) (grownBy_trans hg2 (World.grownBy_alloc _ _ _))) (Nat.le_refl _) g2 g4 (g3 0 _ (Nat.zero_le _) (Below.refl _ _))
/-! ### The equality of any sets -/
attribute [local go_sem] nilA32 nilA255 nilA158 nilA98 nilA262 nilA78
set_option maxRecDepth 100000 in
set_option maxHeartbeats 2000000 in
theorem c96x (t1 t2 n1 n2 : Int) (s t : ByteArray) (w : World) : Calls Tryz.prog 96 #[.agg #[.int .i64 t1, .int .u64 n1, .string s, .nilIface], .agg #[.int .i64 t2, .int .u64 n2, .string t, .nilIface]] w fun e w' => (∃ r, e = .returned (.bool r)) ∧ Below w.heap.size w w' := by
 go_enter Tryz.func96, Tryz.ntmps96
 go_wp2_with fail
 all_goals go_ret
 all_goals exact ⟨⟨_, rfl⟩, ((Below.refl _ _).alloc (Nat.le_refl _) _).alloc (by simp) _⟩
set_option maxRecDepth 100000 in
set_option maxHeartbeats 2000000 in
theorem c95x (x y : KV) (w : World) : Calls Tryz.prog 95 #[.agg (enc5 x).toArray, .agg (enc5 y).toArray] w fun e w' => (∃ r, e = .returned (.bool r)) ∧ Below w.heap.size w w' := by
 obtain ⟨k, t, n, s⟩ := x
 obtain ⟨k', t', n', s'⟩ := y
 unfold enc5
 dsimp only
 go_enter Tryz.func95, Tryz.ntmps95
 go_wp2_with (go_at_call 96; refine (c96x _ _ _ _ _ _ _).mono ?_; rintro e w1 ⟨⟨r, rfl⟩, hb1⟩)
 all_goals go_ret
 · exact ⟨⟨_, rfl⟩, below_then (((Below.refl _ _).alloc (Nat.le_refl _) _).alloc (by simp) _) (by simp; omega) hb1⟩
 · exact ⟨⟨_, rfl⟩, ((Below.refl _ _).alloc (Nat.le_refl _) _).alloc (by simp) _⟩
set_option maxRecDepth 100000 in
set_option maxHeartbeats 1000000 in
theorem c94x (A1 A2 : Option Addr) (n1 n2 k1 k2 : Nat) (xs ys : List KV) (w : World) (h1 : Rd w w.heap.size 5 A1 n1 k1 (xs.map enc5)) (h2 : Rd w w.heap.size 5 A2 n2 k2 (ys.map enc5)) :
 Calls Tryz.prog 94 #[.slice A1 n1 k1, .slice A2 n2 k2, .func (.func 95) #[] #[]] w fun e w' => (∃ r, e = .returned (.bool r)) ∧ Below w.heap.size w w' := by
 have l1 := h1.numlen
 have l2 := h2.numlen
 have b1 := h1.cap
 have b2 := h2.cap
 have t1 := h1.top
 have t2 := h2.top
 by_cases hn : n1 = n2
 · (
 have hl : Hid (xs.length = ys.length) := by unfold Hid; omega
 subst hn
 have l1' := Lib.hid l1
 have l2' := Lib.hid l2
 have H1 := Lib.hid h1
 have H2 := Lib.hid h2
 clear l1 l2 h1 h2
 go_enter Tryz.func94, Tryz.ntmps94
 go_wp2_with fail
 go_loopw [17] (fun i wr => ∃ k : Nat, k ≤ n1 ∧ i = .int .i64 k ∧ Below w.heap.size w wr) (fun i _ => n1 - (intOf i).toNat)
 case atStart => exact ⟨0, Nat.zero_le _, rfl, Below.refl _ _⟩
 case round => (
 obtain ⟨k, hk, rfl, hb⟩ := hrel
 obtain ⟨wo, rfl⟩ : ∃ wo : World, wo = wr := ⟨_, rfl⟩
 by_cases hlt : k < n1
 · (
 obtain ⟨ba, oa, r1, rfl, hlta, hx, _, ca⟩ := (H1.out.below hb).at_ hlt
 obtain ⟨bb, ob, r2, rfl, hltb, hy, _, cb⟩ := (H2.out.below hb).at_ hlt
 rw [List.getElem?_map, Option.map_eq_some_iff] at hx hy
 obtain ⟨x, hx, rfl⟩ := hx
 obtain ⟨y, hy, rfl⟩ := hy
 obtain ⟨cx, hcx⟩ : ∃ cx, cx = (enc5 x).toArray := ⟨_, rfl⟩
 obtain ⟨cy, hcy⟩ : ∃ cy, cy = (enc5 y).toArray := ⟨_, rfl⟩
 have sx : cx.size = 5 := by rw [hcx]; rfl
 have sy : cy.size = 5 := by rw [hcy]; rfl
 have oc1 : cx.toList.all (·.oneCell') = true := by rw [hcx]; rfl
 have oc2 : cy.toList.all (·.oneCell') = true := by rw [hcy]; rfl
 have ca2 : wo.rangeAt ba (oa + k * 5) cx.toList := by rw [hcx]; exact ca
 have hbn : Below wo.heap.size wo (wo.alloc (.cells cx 87)) := (Below.refl _ _).alloc (Nat.le_refl _) _
 have hwo := hb.size
 have cb2 : (wo.alloc (.cells cx 87)).rangeAt bb (ob + k * 5) cy.toList := by
  rw [hcy]
  exact fun j v hv => cellk (cb j v hv) hbn
 have z1 : ((wo.alloc (.cells cx 87)).alloc (.cells cy 87)).heap[wo.heap.size]? = some (.cells cx 87 (0, 0)) := by
  rw [Below.heap_alloc _ _ _ (by simp)]; exact heap_alloc_new wo _
 have z2 : ((wo.alloc (.cells cx 87)).alloc (.cells cy 87)).heap[wo.heap.size + 1]? = some (.cells cy 87 (0, 0)) := by
  have := heap_alloc_new (wo.alloc (.cells cx 87)) (.cells cy 87)
  simpa using this
 have C95 := Lib.hid (c95x x y ((wo.alloc (.cells cx 87)).alloc (.cells cy 87)))
 rw [← hcx, ← hcy] at C95
 have hbw : Below w.heap.size w ((wo.alloc (.cells cx 87)).alloc (.cells cy 87)) := (hb.alloc hb.size _).alloc (by simp; omega) _
 have hsz : w.heap.size ≤ ((wo.alloc (.cells cx 87)).alloc (.cells cy 87)).heap.size := hbw.size
 have hx' := Lib.hid hx
 have hy' := Lib.hid hy
 have HB := Lib.hid hbw
 have HS := Lib.hid hsz
 clear hx hy hcx hcy hbw hbn ca cb hsz
 have hi0 : (0 : Int) ≤ (k : Int) := by omega
 have hi1 : (k : Int) < (n1 : Int) := by omega
 go_wp2_with (first
  | (go_at_call 95; refine C95.out.mono ?_; rintro e w1 ⟨⟨r, rfl⟩, hb1⟩; cases r)
  | ((with_reducible refine arm_load_all 5 info87x Tryz.underlying87 z1 ?_ ?_ ?_ ?_); rfl; rfl; exact sx)
  | ((with_reducible refine arm_load_all 5 info87x Tryz.underlying87 z2 ?_ ?_ ?_ ?_); rfl; rfl; exact sy)
  | ((with_reducible refine arm_load ca2 ?_ 5 info87x Tryz.underlying87 ?_ ?_ ?_); rfl; rfl; exact sx)
  | ((with_reducible refine arm_load cb2 ?_ 5 info87x Tryz.underlying87 ?_ ?_ ?_); rfl; rfl; exact sy)
  | ((with_reducible apply arm_store_new 5 info87x); rfl; simp; rfl; rfl; assumption; assumption))
 · go_ret
   exact ⟨⟨_, rfl⟩, below_then HB.out HS.out hb1⟩
 · (
 go_roundw
 case rel => exact ⟨k + 1, by omega, by go_num, below_then HB.out HS.out hb1⟩
 case measure => simp [intOf]; omega))
 · (
 go_wp2_with fail
 go_ret
 exact ⟨⟨_, rfl⟩, hb⟩)))
 · (
 go_enter Tryz.func94, Tryz.ntmps94
 go_wp2_with fail
 go_ret
 exact ⟨⟨_, rfl⟩, Below.refl _ _⟩)
theorem c56x (A1 A2 : Option Addr) (n1 n2 k1 k2 : Nat) (xs ys : List KV) (w : World) (h1 : Rd w w.heap.size 5 A1 n1 k1 (xs.map enc5)) (h2 : Rd w w.heap.size 5 A2 n2 k2 (ys.map enc5)) :
 Calls Tryz.prog 56 #[.slice A1 n1 k1, .slice A2 n2 k2] w fun e w' => (∃ r, e = .returned (.bool r)) ∧ Below w.heap.size w w' := by
 have C := Lib.hid (c94x A1 A2 n1 n2 k1 k2 xs ys w h1 h2)
 clear h1 h2
 go_enter Tryz.func56, Tryz.ntmps56
 go_wp2_with (go_at_call 94; refine C.out.mono ?_; rintro e w1 ⟨⟨r, rfl⟩, hb1⟩)
 go_ret
 exact ⟨⟨_, rfl⟩, hb1⟩
theorem c37x (b1 o1 : Nat) (h : Int) (w : World) (hh : h ≠ 0) (x0 : w.cell? ⟨b1, o1, none⟩ = some (.int .u64 h)) :
 Calls Tryz.prog 37 #[.pointer (some ⟨b1, o1, none⟩)] w fun e w' => e = .returned (.agg #[.int .u64 h]) ∧ Below w.heap.size w w' := by
 have f1 : (h == 0) = false := by simpa using hh
 obtain ⟨W0, hW0⟩ : ∃ W0, W0 = w.alloc (.cells #[.int .u64 0] 93) := ⟨_, rfl⟩
 have hb : Below w.heap.size w W0 := ba hW0
 have hz : W0.heap[w.heap.size]? = some (.cells #[.int .u64 0] 93 (0, 0)) := by rw [hW0]; exact heap_alloc_new w _
 have x1 := cellk x0 hb
 have HW := Lib.hid hW0
 have HB := Lib.hid hb
 clear hW0 hb x0
 go_enter Tryz.func37, Tryz.ntmps37
 go_upto_region 1 with fail
 rw [← HW.out]
 go_wp2_with ((with_reducible apply arm_store_whole 1 info93 hz); rfl; rfl; rfl; rfl; rfl; intro w3 g1 g2 g3 g4)
 exact bodyPost_ret (results_cell_row rfl _ _ _ _ _ _ _ rfl g1 Tryz.underlying93 rfl info93) rfl ⟨rfl, g3 _ _ (Nat.le_refl _) HB.out⟩
set_option maxHeartbeats 1000000 in
theorem c38x (l1 l2 : List KV) (s1 s2 : Sl) (b1 o1 b2 o2 : Nat) (H1 H2 : Int) (n1 : H1 ≠ 0) (n2 : H2 ≠ 0) (w : World) (h1 : Rd w w.heap.size 5 s1.A s1.n s1.c (l1.map enc5)) (h2 : Rd w w.heap.size 5 s2.A s2.n s2.c (l2.map enc5))
 (x0 : w.cell? ⟨b1, o1, none⟩ = some (.int .u64 H1)) (x1 : w.cell? ⟨b1, o1 + 1, none⟩ = some (.slice s1.A s1.n s1.c)) (y0 : w.cell? ⟨b2, o2, none⟩ = some (.int .u64 H2)) (y1 : w.cell? ⟨b2, o2 + 1, none⟩ = some (.slice s2.A s2.n s2.c)) :
 Calls Tryz.prog 38 #[.pointer (some ⟨b1, o1, none⟩), .pointer (some ⟨b2, o2, none⟩)] w fun e w' => (∃ r, e = .returned (.bool r)) ∧ Below w.heap.size w w' := by
 have C1 := Lib.hid fun (W : World) (hW : Below w.heap.size w W) => c37x b1 o1 H1 W n1 (cellk x0 hW)
 have C2 := Lib.hid fun (W : World) (hW : Below w.heap.size w W) => c37x b2 o2 H2 W n2 (cellk y0 hW)
 have C56 := Lib.hid fun (W : World) (hW : Below w.heap.size w W) => c56x s1.A s2.A s1.n s2.n s1.c s2.c l1 l2 W ((h1.below hW).more hW.size) ((h2.below hW).more hW.size)
 have m1 : (H1 == 0) = false := by simpa using n1
 have m2 : (H2 == 0) = false := by simpa using n2
 have hq := eql93
 have X0 := Lib.hid x0
 have X1 := Lib.hid x1
 have Y0 := Lib.hid y0
 have Y1 := Lib.hid y1
 clear h1 h2 n1 n2
 cases hd : H1 != H2 with
 | true =>
  go_enter Tryz.func38, Tryz.ntmps38
  go_wp2_with (first
   | (go_at_call_of 37 (Value.pointer (some ⟨b1, o1, none⟩)); refine (C1.out _ (Below.refl _ _)).mono ?_; rintro e w1 ⟨rfl, hb1⟩)
   | (go_at_call_of 37 (Value.pointer (some ⟨b2, o2, none⟩)); refine (C2.out _ hb1).mono ?_; rintro e w2 ⟨rfl, hb2⟩))
  go_ret
  exact ⟨⟨_, rfl⟩, below_then hb1 hb1.size hb2⟩
 | false =>
  go_enter Tryz.func38, Tryz.ntmps38
  go_upto_region 3 with (first
   | (go_at_call_of 37 (Value.pointer (some ⟨b1, o1, none⟩)); refine (C1.out _ (Below.refl _ _)).mono ?_; rintro e w1 ⟨rfl, hb1⟩)
   | (go_at_call_of 37 (Value.pointer (some ⟨b2, o2, none⟩)); refine (C2.out _ hb1).mono ?_; rintro e w2 ⟨rfl, hb2⟩))
  have hb := below_then hb1 hb1.size hb2
  have x0 := cellk X0.out hb
  have x1 := cellk X1.out hb
  have y0 := cellk Y0.out hb
  have y1 := cellk Y1.out hb
  have HB := Lib.hid hb
  clear hb hb1 hb2 hd
  go_upto_region 9 with fail
  first
   | (go_region_held3 (fun w' => w'.cell? ⟨b1, o1 + 1, none⟩ = some (.slice s1.A s1.n s1.c) ∧ w'.cell? ⟨b2, o2 + 1, none⟩ = some (.slice s2.A s2.n s2.c)) (first | exact ⟨x1, y1⟩ | exact ⟨cellk (w := w2.drew) x1 hb3, cellk (w := w2.drew) y1 hb3⟩)
    (first | (go_at_call 56; refine (C56.out _ (below_drew HB.out)).mono ?_; rintro e w3 ⟨⟨r, rfl⟩, hb3⟩)))
   | fail
  all_goals go_wp2_with fail
  all_goals go_ret
  all_goals exact ⟨⟨_, rfl⟩, below_then (below_drew HB.out) HB.out.size hb3⟩
end Go.Proofs.YtlpddogcnpokfaaGreatDoor
