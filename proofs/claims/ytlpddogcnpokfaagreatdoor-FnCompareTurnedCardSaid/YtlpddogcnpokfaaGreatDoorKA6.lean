/- Contracts of functions of the program, for the comparison of aggregations (part KA6). -/
import Derived.Test.YtlpddogcnpokfaaGreatDoorKA5
import Derived.Test.YtlpddogcnpokfaaGreatDoorKA3
import Derived.Deep.RegionHeld3
set_option linter.all false
namespace Go.Proofs.YtlpddogcnpokfaaGreatDoor
open Go.RowKit
section
theorem c176 (ty num : Int) (s : ByteArray) (w : World) : Calls Tryz.prog 176 #[.agg #[.int .i64 ty, .int .u64 num, .string s, .nilIface]] w fun e w' => e = .returned (.int .i64 ty) ∧ Below w.heap.size w w' := by
 go_enter Tryz.func176, Tryz.ntmps176
 go_wp2_with fail
 go_ret
 exact ⟨rfl, (Below.refl _ _).alloc (Nat.le_refl _) _⟩
set_option maxHeartbeats 1000000 in
set_option maxRecDepth 100000 in
theorem c170 (B q : Nat) (bs : List UInt8) (s : ByteArray) (w : World) (h : Dig w B q bs) (hB : B ≤ w.heap.size) (hl : bs.length + 8 + s.size ≤ 1000000) :
 Calls Tryz.prog 170 #[.agg #[.pointer (some ⟨q, 0, none⟩)], .agg #[.int .i64 4, .int .u64 0, .string s, .nilIface]] w fun e w' => e = .returned (.agg #[.pointer (some ⟨q, 0, none⟩)]) ∧ Dig w' B q (bs ++ Lib.leBytes 8 6874584755375207263 ++ s.data.toList) ∧ Below B w w' ∧ Kept q w w' := by
 have hqs : q < w.heap.size := by obtain ⟨_, v, h2, _⟩ := h; exact (Array.getElem?_eq_some_iff.1 h2).1
 go_enter Tryz.func170, Tryz.ntmps170
 go_upto_region 1 with fail
 obtain ⟨W0, hW0⟩ : ∃ W0, W0 = ((w.alloc (.cells #[.pointer (some ⟨q, 0, none⟩)] 203)).alloc (.cells #[.int .i64 4, .int .u64 0, .string s, .nilIface] 85)).alloc (.cells #[.pointer none] 203) := ⟨_, rfl⟩
 rw [← hW0]
 have hz0 : W0.heap[w.heap.size]? = some (.cells #[.pointer (some ⟨q, 0, none⟩)] 203 (0, 0)) := by
  rw [hW0, Below.heap_alloc _ _ _ (by simp; omega), Below.heap_alloc _ _ _ (by simp)]; exact heap_alloc_new w _
 have hz1 : W0.heap[w.heap.size + 1]? = some (.cells #[.int .i64 4, .int .u64 0, .string s, .nilIface] 85 (0, 0)) := by
  rw [hW0, Below.heap_alloc _ _ _ (by simp)]
  have := heap_alloc_new (w.alloc (.cells #[.pointer (some ⟨q, 0, none⟩)] 203)) (.cells #[.int .i64 4, .int .u64 0, .string s, .nilIface] 85)
  simpa using this
 have hz2 : W0.heap[w.heap.size + 1 + 1]? = some (.cells #[.pointer none] 203 (0, 0)) := by
  rw [hW0]
  have := heap_alloc_new ((w.alloc (.cells #[.pointer (some ⟨q, 0, none⟩)] 203)).alloc (.cells #[.int .i64 4, .int .u64 0, .string s, .nilIface] 85)) (.cells #[.pointer none] 203)
  simpa using this
 have hb : Below w.heap.size w W0 := by rw [hW0]; exact (((Below.refl _ _).alloc (Nat.le_refl _) _).alloc (by simp) _).alloc (by simp; omega) _
 have hsz : W0.heap.size = w.heap.size + 3 := by rw [hW0]; simp
 have HSZ := Lib.hid hsz
 have HD0 := Lib.hid (dig_keep h (fun b _ hb2 => hb.block b hb2))
 clear hW0 hsz h
 have a0 := blk_cell hz0 0 _ rfl
 have a1 := blk_cell hz1 0 _ rfl
 have a2 := blk_cell hz1 1 _ rfl
 have a3 := blk_cell hz1 2 _ rfl
 have a4 := blk_cell hz1 3 _ rfl
 go_upto_region 3 with (go_at_call 176; refine (c176 _ _ _ _).mono ?_; rintro e w1 ⟨rfl, hb1⟩)
 have hs0 := HSZ.out
 have hw1 := hb1.size
 have y0 := (hb1.block _ (by omega)).trans hz0
 have y1 := (hb1.block _ (by omega)).trans hz1
 have y2 := (hb1.block _ (by omega)).trans hz2
 have hd1 := dig_keep HD0.out (fun b _ hb2 => hb1.block b hb2)
 have b0 := blk_cell y0 0 _ rfl
 have C1 := Lib.hid (c177 B q bs 6874584755375207263 (by decide) w1 hd1 (by omega) (by omega))
 clear a0 a1 a2 a3 a4 hz0 hz1 hz2
 go_upto_region 14 with (first
  | (go_at_call 177; refine C1.out.mono ?_; rintro e w2 ⟨rfl, hd2, hb2, hk2⟩; have u0 := hk2.blk y0 (by omega) (by decide); have u1 := hk2.blk y1 (by omega) (by decide); have u2 := hk2.blk y2 (by omega) (by decide))
  | ((with_reducible apply arm_store_whole 1 info203 u0); rfl; rfl; rfl; rfl; rfl; intro w3 g1 g2 g3 g4))
 have hw2 := hk2.1
 have v1 := (g2 _ (by omega)).trans u1
 have v2 := (g2 _ (by omega)).trans u2
 have hd3 := dig_other hd2 u0 (by decide) (by omega) g2
 have d0 := blk_cell g1 0 _ rfl
 have d1 := blk_cell v1 0 _ rfl
 have d2 := blk_cell v1 1 _ rfl
 have d3 := blk_cell v1 2 _ rfl
 have d4 := blk_cell v1 3 _ rfl
 have hl2 : (bs ++ Lib.leBytes 8 6874584755375207263).length = bs.length + 8 := by simp [Lib.leBytes]
 have C2 := Lib.hid (c169 B q (bs ++ Lib.leBytes 8 6874584755375207263) s w3 hd3 (by omega) (by omega))
 have K0 : Hid (Kept q w w3) := Lib.hid (kept_new (Kept.trans (Kept.trans (Kept.below hb) (Kept.below hb1)) hk2) g2 (by omega) g4)
 have L0 : Hid (Below B w w3) := Lib.hid (g3 _ _ (by omega) (((hb.trans (hb1.mono (by omega))).mono hB).trans hb2))
 clear y0 y1 y2 u1 u2 b0 hd1 hd2 hd3 hl2
 go_wp2_with (first
  | (go_at_call 169; refine C2.out.mono ?_; rintro e w4 ⟨rfl, hd4, hb4, hk4⟩; have r0 := hk4.blk g1 (by omega) (by decide); have r2 := hk4.blk v2 (by omega) (by decide))
  | ((with_reducible apply arm_store_whole 1 info203 r0); rfl; rfl; rfl; rfl; rfl; intro w5 p1 p2 p3 p4; have r5 := (p2 (w.heap.size + 1 + 1) (by omega)).trans r2; have s0 := blk_cell p1 0 _ rfl)
  | ((with_reducible apply arm_store_whole 1 info203 r5); rfl; rfl; rfl; rfl; rfl; intro w6 m1 m2 m3 m4))
 have hw4 := hk4.1
 refine bodyPost_ret (results_cell_row rfl _ _ _ _ _ _ _ rfl m1 Tryz.underlying203 rfl info203) rfl ⟨rfl, dig_other (dig_other hd4 r0 (by decide) (by omega) p2) r5 (by decide) (by omega) m2, m3 _ _ (by omega) (p3 _ _ (by omega) (L0.out.trans hb4)), kept_new (kept_new (Kept.trans K0.out hk4) p2 (by omega) p4) m2 (by omega) m4⟩
end
section
/-- The bytes that one key-value gives to the hash. -/
def kvBytes (x : KV) : List UInt8 := x.key.data.toList ++ Lib.leBytes 8 6874584755375207263 ++ x.str.data.toList
set_option maxHeartbeats 1000000 in
theorem c164 (B q : Nat) (bs : List UInt8) (k s : ByteArray) (w : World) (h : Dig w B q bs) (hB : B ≤ w.heap.size) (hl : bs.length + k.size + 8 + s.size ≤ 1000000) :
 Calls Tryz.prog 164 #[.agg #[.pointer (some ⟨q, 0, none⟩)], .agg (enc5 (strKV k s)).toArray] w fun e w' => e = .returned (.agg #[.pointer (some ⟨q, 0, none⟩)]) ∧ Dig w' B q (bs ++ kvBytes (strKV k s)) ∧ Below B w w' ∧ Kept q w w' := by
 have hqs : q < w.heap.size := by obtain ⟨_, v, h2, _⟩ := h; exact (Array.getElem?_eq_some_iff.1 h2).1
 unfold enc5 strKV
 go_enter Tryz.func164, Tryz.ntmps164
 go_upto_region 1 with fail
 obtain ⟨W0, hW0⟩ : ∃ W0, W0 = ((w.alloc (.cells #[.pointer (some ⟨q, 0, none⟩)] 203)).alloc (.cells #[.string k, .int .i64 4, .int .u64 0, .string s, .nilIface] 87)).alloc (.cells #[.pointer none] 203) := ⟨_, rfl⟩
 rw [← hW0]
 have hz0 : W0.heap[w.heap.size]? = some (.cells #[.pointer (some ⟨q, 0, none⟩)] 203 (0, 0)) := by
  rw [hW0, Below.heap_alloc _ _ _ (by simp; omega), Below.heap_alloc _ _ _ (by simp)]; exact heap_alloc_new w _
 have hz1 : W0.heap[w.heap.size + 1]? = some (.cells #[.string k, .int .i64 4, .int .u64 0, .string s, .nilIface] 87 (0, 0)) := by
  rw [hW0, Below.heap_alloc _ _ _ (by simp)]
  have := heap_alloc_new (w.alloc (.cells #[.pointer (some ⟨q, 0, none⟩)] 203)) (.cells #[.string k, .int .i64 4, .int .u64 0, .string s, .nilIface] 87)
  simpa using this
 have hz2 : W0.heap[w.heap.size + 1 + 1]? = some (.cells #[.pointer none] 203 (0, 0)) := by
  rw [hW0]
  have := heap_alloc_new ((w.alloc (.cells #[.pointer (some ⟨q, 0, none⟩)] 203)).alloc (.cells #[.string k, .int .i64 4, .int .u64 0, .string s, .nilIface] 87)) (.cells #[.pointer none] 203)
  simpa using this
 have hb : Below w.heap.size w W0 := by rw [hW0]; exact (((Below.refl _ _).alloc (Nat.le_refl _) _).alloc (by simp) _).alloc (by simp; omega) _
 have hsz : W0.heap.size = w.heap.size + 3 := by rw [hW0]; simp
 have hd0 := dig_keep h (fun b _ hb2 => hb.block b hb2)
 clear hW0 h
 have C1 := Lib.hid (c169 B q bs k W0 hd0 (by omega) (by omega))
 have HSZ := Lib.hid hsz
 clear hsz hd0
 have a0 := blk_cell hz0 0 _ rfl
 have a1 := blk_cell hz1 0 _ rfl
 go_upto_region 2 with (first
  | (go_at_call 169; refine C1.out.mono ?_; rintro e w2 ⟨rfl, hd2, hb2, hk2⟩; have hs0 := HSZ.out; have u0 := hk2.blk hz0 (by omega) (by decide); have u1 := hk2.blk hz1 (by omega) (by decide); have u2 := hk2.blk hz2 (by omega) (by decide))
  | ((with_reducible apply arm_store_whole 1 info203 u0); rfl; rfl; rfl; rfl; rfl; intro w3 g1 g2 g3 g4))
 have hw2 := hk2.1
 have v1 := (g2 (w.heap.size + 1) (by omega)).trans u1
 have v2 := (g2 (w.heap.size + 1 + 1) (by omega)).trans u2
 have hd3 := dig_other hd2 u0 (by decide) (by omega) g2
 have d0 := blk_cell g1 0 _ rfl
 have d1 := blk_cell v1 1 _ rfl
 have d2 := blk_cell v1 2 _ rfl
 have d3 := blk_cell v1 3 _ rfl
 have d4 := blk_cell v1 4 _ rfl
 have hl2 : (bs ++ k.data.toList).length = bs.length + k.size := by rw [List.length_append, Array.length_toList]; rfl
 have C2 := Lib.hid (c170 B q (bs ++ k.data.toList) s w3 hd3 (by omega) (by omega))
 have K0 : Hid (Kept q w w3) := Lib.hid (kept_new (Kept.trans (Kept.below hb) hk2) g2 (by omega) g4)
 have L0 : Hid (Below B w w3) := Lib.hid (g3 _ _ (by omega) ((hb.mono hB).trans hb2))
 clear u0 u1 u2 a0 a1 hz0 hz1 hz2 hd2 hd3 hl2
 go_wp2_with (first
  | (go_at_call 170; refine C2.out.mono ?_; rintro e w4 ⟨rfl, hd4, hb4, hk4⟩; have r2 := hk4.blk v2 (by omega) (by decide))
  | ((with_reducible apply arm_store_whole 1 info203 r2); rfl; rfl; rfl; rfl; rfl; intro w6 m1 m2 m3 m4))
 have hw4 := hk4.1
 refine bodyPost_ret (results_cell_row rfl _ _ _ _ _ _ _ rfl m1 Tryz.underlying203 rfl info203) rfl ⟨rfl, ?_, m3 _ _ (by omega) (L0.out.trans hb4), kept_new (Kept.trans K0.out hk4) m2 (by omega) m4⟩
 have := dig_other hd4 r2 (by decide) (by omega) m2
 simpa [kvBytes] using this
end
section
theorem c165 (x : Int) (w : World) : Calls Tryz.prog 165 #[.int .u64 x] w fun e w' => e = .returned (.int .u64 (if x = 0 then 1 else x)) ∧ w = w' := by
 by_cases hx : x = 0
 · (
 subst hx
 go_enter Tryz.func165, Tryz.ntmps165
 go_wp2_with fail
 go_ret
 exact ⟨rfl, rfl⟩)
 · (
 go_enter Tryz.func165, Tryz.ntmps165
 go_wp2_with fail
 go_ret
 exact ⟨by simp [hx], rfl⟩)
set_option maxHeartbeats 1000000 in
theorem c153 (B q hq : Nat) (bs : List UInt8) (k s : ByteArray) (w : World) (h : Dig w B q bs) (hH : w.heap[hq]? = some (.cells #[.pointer (some ⟨q, 0, none⟩)] 294 (0, 0))) (hne : hq ≠ q) (hB : B ≤ w.heap.size) (hl : bs.length + k.size + 8 + s.size ≤ 1000000) :
 Calls Tryz.prog 153 #[.pointer (some ⟨hq, 0, none⟩), .agg (enc5 (strKV k s)).toArray] w fun e w' => e = .returned (.tuple #[]) ∧ Dig w' B q (bs ++ kvBytes (strKV k s)) ∧ Below B w w' ∧ Kept q w w' := by
 have l5 : (enc5 (strKV k s)).toArray.size = 5 := rfl
 have hqs : hq < w.heap.size := (Array.getElem?_eq_some_iff.1 hH).1
 obtain ⟨W0, hW0⟩ : ∃ W0, W0 = w.alloc (.cells (enc5 (strKV k s)).toArray 87) := ⟨_, rfl⟩
 have hb : Below w.heap.size w W0 := ba hW0
 have hz : W0.heap[w.heap.size]? = some (.cells (enc5 (strKV k s)).toArray 87 (0, 0)) := by rw [hW0]; exact heap_alloc_new w _
 have hz2 := (hb.block _ hqs).trans hH
 have C := Lib.hid (c164 B q bs k s W0.drew (dig_keep h (fun b _ hb2 => hb.block b hb2)) (by have := hb.size; show B ≤ W0.heap.size; omega) hl)
 have HW := Lib.hid hW0
 clear hW0
 unfold enc5 strKV at *
 go_enter Tryz.func153, Tryz.ntmps153
 go_upto_region 1 with fail
 rw [← HW.out]
 refine wp_region_held_drew (S := fun w' => w'.heap[hq]? = some (.cells #[.pointer (some ⟨q, 0, none⟩)] 294 (0, 0)) ∧ w'.heap[w.heap.size]? = some (.cells #[.string k, .int .i64 4, .int .u64 0, .string s, .nilIface] 87 (0, 0))) (by kernel_rfl) ⟨hz2, hz⟩ (fun hHeld => ?_)
 refine tk 0 4 (v := .pointer (some ⟨hq, 0, none⟩)) (a' := ?_) rfl rfl ?_ ?_ rfl ?_
 rotate_left 1
 · intro w2 hSw; go_simp
 · simp only [sI, s0, sS]; exact rfl
 refine tk 1 5 (v := .pointer (some ⟨hq, 0, none⟩)) (a' := ?_) rfl rfl ?_ ?_ rfl ?_
 rotate_left 1
 · intro w2 hSw; go_simp
 · simp only [sI, s0, sS]; exact rfl
 refine tk 2 6 (v := .pointer (some ⟨hq, 0, none⟩)) (a' := ?_) rfl rfl ?_ ?_ rfl ?_
 rotate_left 1
 · intro w2 hSw; go_simp
 · simp only [sI, s0, sS]; exact rfl
 refine tk 3 7 (v := .agg #[.pointer (some ⟨q, 0, none⟩)]) (a' := ?_) rfl rfl ?_ ?_ rfl ?_
 rotate_left 1
 · intro w2 hSw; exact run_load_part (x := .tmp 6) (ty := 203) (pre := []) (mid := [.pointer (some ⟨q, 0, none⟩)]) (post := []) rfl rfl hSw.1 rfl 1 ⟨rfl, rfl⟩ info203 Tryz.underlying203 rfl
 · simp only [sI, s0, sS]; exact rfl
 refine tk 4 8 (v := .agg #[.string k, .int .i64 4, .int .u64 0, .string s, .nilIface]) (a' := ?_) rfl rfl ?_ ?_ rfl ?_
 rotate_left 1
 · intro w2 hSw; exact run_load_part (x := .tmp 3) (ty := 87) (pre := []) (mid := [.string k, .int .i64 4, .int .u64 0, .string s, .nilIface]) (post := []) rfl rfl hSw.2 rfl 5 ⟨rfl, rfl⟩ info87 Tryz.underlying87 rfl
 · simp only [sI, s0, sS]; exact rfl
 refine wpAnyH_ready (rs := [5]) (by kernel_rfl) (by simp) ?_
 refine ar1 rfl (fun K hK => ?_)
 go_simp
 refine C.out.mono ?_
 rintro e w1 ⟨rfl, hd1, hb1, hk1⟩
 try dsimp only
 refine hK.out _ _ ⟨hk1.blk hz2 hne (by decide), hk1.blk hz (by obtain ⟨_, v, h2, _⟩ := h; have := (Array.getElem?_eq_some_iff.1 h2).1; omega) (by decide)⟩ (fun hHeld => ?_)
 clear hK K
 refine wpAnyH_done (by kernel_rfl) ?_ _
 go_end0
 exact ⟨rfl, hd1, (below_drew (hb.mono hB)).trans hb1, Kept.trans (w1 := W0.drew) (Kept.below (w1 := W0) hb) hk1⟩
end
section
theorem c152 (w : World) : Calls Tryz.prog 152 #[] w fun e w' => ∃ hq q, e = .returned (.pointer (some ⟨hq, 0, none⟩)) ∧ Dig w' w.heap.size q [] ∧ w'.heap[hq]? = some (.cells #[.pointer (some ⟨q, 0, none⟩)] 294 (0, 0)) ∧ hq ≠ q ∧ w.heap.size ≤ hq ∧ Below w.heap.size w w' := by
 go_enter Tryz.func152, Tryz.ntmps152
 go_wp2_with (go_at_call 92; refine (c92 _).mono ?_; rintro e w1 ⟨q, rfl, hd, hb⟩)
 go_ret
 have hq : q < w1.heap.size := by obtain ⟨_, v, h2, _⟩ := hd; exact (Array.getElem?_eq_some_iff.1 h2).1
 exact ⟨w1.heap.size, q, rfl, dig_keep hd (fun b _ hb2 => Below.heap_alloc _ _ _ (by omega)), heap_alloc_new w1 _, by omega, hb.size, hb.alloc hb.size _⟩
end
section
/-- The little-endian number that the first n bytes spell. -/
def le (n : Nat) (bs : List UInt8) : Int := (Lib.leNat (bs.take n) : Nat)
/-- The four accumulators over whole stripes of 32 bytes. -/
def strip : Nat → Int × Int × Int × Int → List UInt8 → (Int × Int × Int × Int) × List UInt8
 | 0, v, bs => (v, bs)
 | k + 1, v, bs => if 32 ≤ bs.length then strip k (hround v.1 (le 8 bs), hround v.2.1 (le 8 (bs.drop 8)), hround v.2.2.1 (le 8 (bs.drop 16)), hround v.2.2.2 (le 8 (bs.drop 24))) (bs.drop 32) else (v, bs)
def tail8 : Nat → Int → List UInt8 → Int × List UInt8
 | 0, h, bs => (h, bs)
 | k + 1, h, bs => if 8 ≤ bs.length then tail8 k (IntKind.u64.wrap (IntKind.u64.wrap (rotl (bits BinOp.xor IntKind.u64 h (hround 0 (le 8 bs))) 27 * 11400714785074694791) + 9650029242287828579)) (bs.drop 8) else (h, bs)
def tail1 (h : Int) (b : UInt8) : Int := IntKind.u64.wrap (rotl (bits BinOp.xor IntKind.u64 h (IntKind.u64.wrap ((b.toNat : Int) * 2870177450012600261))) 11 * 11400714785074694791)
def Bytes (w : World) (g o : Nat) (bs : List UInt8) : Prop := ∀ j u, (bs.map byteV)[j]? = some u → w.cell? ⟨g, o + j, none⟩ = some u
theorem c156 (g o n c : Nat) (bs : List UInt8) (w : World) (hn : 8 ≤ n) (hl : 8 ≤ bs.length) (h : Bytes w g o bs) :
 Calls Tryz.prog 156 #[.agg #[], .slice (some ⟨g, o, none⟩) n c] w fun e w' => e = .returned (.int .u64 (le 8 bs)) ∧ Below w.heap.size w w' := by
 match bs, hl with
 | b0 :: b1 :: b2 :: b3 :: b4 :: b5 :: b6 :: b7 :: r, _ =>
  exact Tryz.binary_LE_Uint64 g o n c b0 b1 b2 b3 b4 b5 b6 b7 w hn (h 0 _ rfl) (h 1 _ rfl) (h 2 _ rfl) (h 3 _ rfl) (h 4 _ rfl) (h 5 _ rfl) (h 6 _ rfl) (h 7 _ rfl)
theorem c159 (g o n c : Nat) (bs : List UInt8) (w : World) (hn : 4 ≤ n) (hl : 4 ≤ bs.length) (h : Bytes w g o bs) :
 Calls Tryz.prog 159 #[.agg #[], .slice (some ⟨g, o, none⟩) n c] w fun e w' => e = .returned (.int .u32 (le 4 bs)) ∧ Below w.heap.size w w' := by
 match bs, hl with
 | b0 :: b1 :: b2 :: b3 :: r, _ =>
  exact Tryz.binary_LE_Uint32 g o n c b0 b1 b2 b3 w hn (h 0 _ rfl) (h 1 _ rfl) (h 2 _ rfl) (h 3 _ rfl)
theorem Bytes.drop {w : World} {g o : Nat} {bs : List UInt8} (h : Bytes w g o bs) (k : Nat) : Bytes w g (o + k) (bs.drop k) := by
 intro j u hj
 rw [Nat.add_assoc]
 refine h (k + j) u ?_
 rw [List.map_drop, List.getElem?_drop] at hj
 exact hj
theorem Bytes.keep {w w' : World} {g o : Nat} {bs : List UInt8} (h : Bytes w g o bs) (hb : Below w.heap.size w w') : Bytes w' g o bs := fun j u hj => cellk (h j u hj) hb
end
section
/-- A slice's bytes, as they are read. -/
def BR (w : World) (A : Option Addr) (c : Nat) (bs : List UInt8) : Prop := bs.length ≤ c ∧ c ≤ 9223372036854775807 ∧ (bs.length = 0 ∨ ∃ g o, A = some ⟨g, o, none⟩ ∧ Bytes w g o bs)
theorem BR.keep {w w' : World} {A : Option Addr} {c : Nat} {bs : List UInt8} (h : BR w A c bs) (hb : Below w.heap.size w w') : BR w' A c bs := by
 obtain ⟨h1, h2, h3⟩ := h
 refine ⟨h1, h2, ?_⟩
 rcases h3 with h3 | ⟨g, o, e, h3⟩
 · exact .inl h3
 · exact .inr ⟨g, o, e, h3.keep hb⟩
theorem BR.at_ {w : World} {A : Option Addr} {c : Nat} {bs : List UInt8} (h : BR w A c bs) (hl : 0 < bs.length) : ∃ g o, A = some ⟨g, o, none⟩ ∧ Bytes w g o bs := by
 rcases h.2.2 with h3 | h3
 · omega
 · exact h3
theorem BR.drop {w : World} {g o c : Nat} {bs : List UInt8} (h : BR w (some ⟨g, o, none⟩) c bs) (hB : Bytes w g o bs) (k : Nat) (hk : k ≤ bs.length) : BR w (some (if c = k then ⟨g, o, none⟩ else ⟨g, o + k, none⟩)) (c - k) (bs.drop k) := by
 refine ⟨by rw [List.length_drop]; have := h.1; omega, by have := h.2.1; omega, ?_⟩
 by_cases hck : bs.length = k
 · left; rw [List.length_drop]; omega
 · (
 right
 have : ¬ c = k := by have := h.1; omega
 rw [if_neg this]
 exact ⟨g, o + k, rfl, hB.drop k⟩)
end
end Go.Proofs.YtlpddogcnpokfaaGreatDoor
