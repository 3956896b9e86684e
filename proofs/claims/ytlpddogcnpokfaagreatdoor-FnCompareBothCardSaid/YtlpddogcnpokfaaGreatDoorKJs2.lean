/- Contracts of functions of the program, for the comparison of aggregations (part KJs2). -/
import Derived.Test.YtlpddogcnpokfaaGreatDoorKJs1
set_option linter.all false
namespace Go.Proofs.YtlpddogcnpokfaaGreatDoor
open Go.RowKit
set_option maxRecDepth 100000 in
set_option maxHeartbeats 1000000 in
theorem c174 (B b N : Nat) (s : ByteArray) (w : World) (h : Bd w B b N) (hs : s.size ≤ 100) (hN : N ≤ 100000) (hB : B ≤ w.heap.size) (hT : Lib.Utf8Tabs 3 4 w) (hT4 : 4 < B) :
 Calls Tryz.prog 174 #[.pointer (some ⟨b, 0, none⟩), .agg #[.int .i64 4, .int .u64 0, .string s, .nilIface]] w fun e w' => e = .returned (.tuple #[]) ∧ Bd w' B b (N + 700) ∧ Fr B b w w' := by
 obtain ⟨W0, hW0⟩ : ∃ W0, W0 = w.alloc (.cells #[.int .i64 4, .int .u64 0, .string s, .nilIface] 85) := ⟨_, rfl⟩
 have hb : Below w.heap.size w W0 := ba hW0
 have hz : W0.heap[w.heap.size]? = some (.cells #[.int .i64 4, .int .u64 0, .string s, .nilIface] 85 (0, 0)) := by rw [hW0]; exact heap_alloc_new w _
 have hs0 : w.heap.size < W0.heap.size := by rw [hW0]; simp
 have HZ := Lib.hid hz
 have HT := Lib.hid hT
 have HD := Lib.hid (h.below hb)
 have HB := Lib.hid hb
 have HW := Lib.hid hW0
 clear hW0 hb hT h
 go_enter Tryz.func174, Tryz.ntmps174
 go_upto_region 1 with fail
 rw [← HW.out]
 go_wp2_with (first
  | (go_at_call 176; refine (c176 _ _ _ _).mono ?_; rintro e w1 ⟨rfl, hb1⟩; have hz1 : w1.heap[w.heap.size]? = _ := (hb1.block _ hs0).trans hz; have hc1 := blk_cell hz1 2 _ rfl; have h01 := Fr.then (b := b) (Fr.of HB.out hB) (Nat.le_trans hB HB.out.size) hb1)
  | ((with_reducible refine arm_load_all 4 info85 Tryz.underlying85 hz ?_ ?_ ?_ ?_); rfl; rfl; rfl)
  | (go_at_call 173; refine (c173 B b N s _ (HD.out.below hb1) hs hN (Nat.le_trans hB h01.size) (utf8_below HT.out hT4 h01.bel) ⟨hT4, by have := h01.size; omega⟩).mono ?_; rintro e w2 ⟨rfl, hd2, hb2⟩))
 go_end0
 exact ⟨rfl, hd2, h01.trans hb2⟩
theorem kv_val {w : World} {x : Nat} {cx : Array Value} {t : TypeId} {fr : Nat × Nat} {k a b c d : Value} (h : w.heap[x]? = some (.cells cx t fr)) (hc : cx = #[k, a, b, c, d]) : w.rangeAt x 1 [a, b, c, d] := by
 subst hc
 intro j v hv
 refine blk_cell h (1 + j) v ?_
 match j, hv with
 | 0, hv => simpa using hv
 | 1, hv => simpa using hv
 | 2, hv => simpa using hv
 | 3, hv => simpa using hv
 | j + 4, hv => simp at hv
set_option maxRecDepth 100000 in
set_option maxHeartbeats 4000000 in
theorem c166 (B b : Nat) (A : Option Addr) (n c : Nat) (l : List KV) (w : World) (hBb : B ≤ b) (hbk : w.heap[b]? = some (.cells #[.pointer none, .slice none 0 0] 299 (0, 0))) (hB : B ≤ w.heap.size) (h : Rd w B 5 A n c (l.map enc5)) (hs : ∀ x ∈ l, IsStr x) (hz : ∀ x ∈ l, x.key.size ≤ 100 ∧ x.str.size ≤ 100) (h8 : n ≤ 8)
 (hT : Lib.Utf8Tabs 3 4 w) (hT4 : 4 < B) :
 Calls Tryz.prog 166 #[.pointer (some ⟨b, 0, none⟩), .slice A n c] w fun e w' => e = .returned (.tuple #[]) ∧ Bd w' B b 20000 ∧ Below B w w' := by
 have hlen := h.numlen
 have H := Lib.hid h
 have HS := Lib.hid hs
 have HZ := Lib.hid hz
 have HLEN := Lib.hid hlen
 have HT := Lib.hid hT
 have HBK := Lib.hid hbk
 have hbl : b < w.heap.size := (Array.getElem?_eq_some_iff.1 hbk).1
 clear h hs hz hlen hT hbk
 go_enter Tryz.func166, Tryz.ntmps166
 go_upto_region 2 with fail
 go_loopw [4, 19] (fun s4 i wr => ∃ (k : Nat) (m : Nat), k ≤ n ∧ i = .int .i64 k ∧ s4 = .int .i64 m ∧ m ≤ 300 + 103 * k ∧ Below w.heap.size w wr) (fun _ i _ => n - (intOf i).toNat)
 case atStart => exact ⟨0, 2 + n * 1 + n * 32, Nat.zero_le _, rfl, by go_num, by omega, Below.refl _ _⟩
 case round => (
 obtain ⟨k, m, hk, rfl, rfl, hm, hb⟩ := hrel
 obtain ⟨wo, rfl⟩ : ∃ wo : World, wo = wr := ⟨_, rfl⟩
 have hbs := hb.size
 have HBK1 := Lib.hid hb
 by_cases hlt : k < n
 · (
 obtain ⟨bb, o, r, rfl, hbB, hx, _, ca⟩ := (H.out.below (hb.mono hB)).at_ hlt
 rw [List.getElem?_map, Option.map_eq_some_iff] at hx
 obtain ⟨x, hx, rfl⟩ := hx
 obtain ⟨cx, hcx⟩ : ∃ cx, cx = (enc5 x).toArray := ⟨_, rfl⟩
 have sx : cx.size = 5 := by rw [hcx]; rfl
 have oc1 : cx.toList.all (·.oneCell') = true := by rw [hcx]; rfl
 have ca2 : wo.rangeAt bb (o + k * 5) cx.toList := by rw [hcx]; exact ca
 have q1 : (wo.alloc (.cells cx 87)).cell? ⟨wo.heap.size, 0, none⟩ = some (.string x.key) := blk_cell (heap_alloc_new wo _) 0 _ (by rw [hcx]; rfl)
 have hsz := (HZ.out x (List.mem_of_getElem? hx)).1
 have hi0 : (0 : Int) ≤ (k : Int) := by omega
 have hi1 : (k : Int) < (n : Int) := by omega
 clear hx hcx ca hb
 go_wp2_with (first
  | ((with_reducible refine arm_load ca2 ?_ 5 info87 Tryz.underlying87 ?_ ?_ ?_); rfl; rfl; exact sx)
  | ((with_reducible apply arm_store_new 5 info87); rfl; simp; rfl; rfl; assumption; assumption))
 go_roundw
 case rel => exact ⟨k + 1, m + (x.key.size + 3), by omega, by go_num, by go_num, by omega, HBK1.out.alloc hbs _⟩
 case measure => simp [intOf]; omega)
 · (
 have hbk2 := (hb.block b hbl).trans HBK.out
 have CG := Lib.hid (Tryz.Builder_Grow_fresh B b m wo hBb hbk2 (Nat.le_trans hB hbs) (by omega))
 have HBW : Hid (Below B w wo) := Lib.hid (hb.mono hB)
 have f1 : ¬ (k : Int) < (n : Int) := by omega
 clear hb hbk2 HBK1
 go_upto_region 9 with (first
  | (go_at_call 171; refine CG.out.mono ?_; rintro e w1 ⟨rfl, hbd, hb1⟩; have HBW : Hid (Below B w w1) := Lib.hid (HBW.out.trans hb1); have HD : Hid (Bd w1 B b 0) := Lib.hid ⟨[], Lib.BuilderAtF.of hbd, Nat.le_refl _⟩; clear hbd hb1)
  | (go_at_call 172; (with_reducible refine (bd_byte B b _ 123 123 _ HD.out rfl (by omega) (by have := HBW.out.size; omega)).mono ?_); rintro e w2 ⟨rfl, hd2, hb2⟩; have HD := Lib.hid hd2; have HBW := Lib.hid (HBW.out.trans hb2.bel); clear hd2 hb2))
 go_loopw [7, 37] (fun _ i wr => ∃ k : Nat, k ≤ n ∧ i = .int .i64 k ∧ Bd wr B b (1 + 1500 * k) ∧ Below B w wr) (fun _ i _ => n - (intOf i).toNat)
 case atStart => exact ⟨0, Nat.zero_le _, rfl, HD.out, HBW.out⟩
 case round => (
 obtain ⟨k, hk, rfl, hd, hb⟩ := hrel
 obtain ⟨wo, rfl⟩ : ∃ wo : World, wo = wr := ⟨_, rfl⟩
 have hbs := hb.size
 have HD := Lib.hid hd
 have HBW := Lib.hid hb
 by_cases hlt : k < n
 · (
 obtain ⟨bb, o, r, rfl, hbB, hx, _, ca⟩ := (H.out.below hb).at_ hlt
 rw [List.getElem?_map, Option.map_eq_some_iff] at hx
 obtain ⟨x, hx, rfl⟩ := hx
 have hsz := HZ.out x (List.mem_of_getElem? hx)
 have hxe := isStr_eq (HS.out x (List.mem_of_getElem? hx))
 obtain ⟨cx, hcx⟩ : ∃ cx, cx = (enc5 x).toArray := ⟨_, rfl⟩
 have sx : cx.size = 5 := by rw [hcx]; rfl
 have oc1 : cx.toList.all (·.oneCell') = true := by rw [hcx]; rfl
 have ca2 : wo.rangeAt bb (o + k * 5) cx.toList := by rw [hcx]; exact ca
 have z1 : (wo.alloc (.cells cx 87)).heap[wo.heap.size]? = some (.cells cx 87 (0, 0)) := heap_alloc_new wo _
 have hcx5 : cx = #[.string x.key, .int .i64 4, .int .u64 0, .string x.str, .nilIface] := by rw [hcx, hxe]; rfl
 have hbn : Below wo.heap.size wo (wo.alloc (.cells cx 87)) := (Below.refl _ _).alloc (Nat.le_refl _) _
 have HD := Lib.hid (hd.below hbn)
 have HBW : Hid (Below B w (wo.alloc (.cells cx 87))) := Lib.hid (hb.alloc (Nat.le_trans hB hbs) _)
 have HZ1 := Lib.hid z1
 have hneb : wo.heap.size ≠ b := by omega
 have HF : Hid (Fr B b (wo.alloc (.cells cx 87)) (wo.alloc (.cells cx 87))) := Lib.hid (Fr.refl B b _)
 have HSB : Hid (B ≤ (wo.alloc (.cells cx 87)).heap.size) := Lib.hid (by rw [World.size_alloc]; omega)
 have hcells : some (Obj.cells cx 87 (0, 0)) = some (Obj.cells ([Value.string x.key] ++ ([Value.int .i64 4, Value.int .u64 0, Value.string x.str, Value.nilIface] ++ [])).toArray 87 (0, 0)) := by rw [hcx5]; rfl
 have zz := HZ1.out
 have q1 : (wo.alloc (.cells cx 87)).cell? ⟨wo.heap.size, 0, none⟩ = some (.string x.key) := blk_cell z1 0 _ (by rw [hcx5]; rfl)
 have hi0 : (0 : Int) ≤ (k : Int) := by omega
 have hi1 : (k : Int) < (n : Int) := by omega
 have HCX5 := Lib.hid hcx5
 have HCL := Lib.hid hcells
 clear hcx5 hcells hd hb hx hcx ca hbn hxe z1 HZ HS HLEN
 go_upto_region 11 with (first
  | ((with_reducible refine arm_load ca2 ?_ 5 info87 Tryz.underlying87 ?_ ?_ ?_); rfl; rfl; exact sx)
  | ((with_reducible apply arm_store_new 5 info87); rfl; simp; rfl; rfl; assumption; assumption)
  | (go_at_call 172; (with_reducible refine (bd_byte B b _ 44 44 _ HD.out rfl (by omega) (by have := HF.out.size; have := HSB.out; omega)).mono ?_); rintro e w2 ⟨rfl, hd2, hb2⟩; have HD := Lib.hid hd2; have HF := Lib.hid (HF.out.trans hb2); have zz := HF.out.blk HZ1.out hneb (by decide); have q1 := blk_cell zz 0 (.string x.key) (by rw [HCX5.out]; rfl); clear hd2 hb2)
  | (go_at_call 172; (with_reducible refine (bd_byte B b _ 58 58 _ HD.out rfl (by omega) (by have := HF.out.size; have := HSB.out; omega)).mono ?_); rintro e w2 ⟨rfl, hd2, hb2⟩; have HD := Lib.hid hd2; have HF := Lib.hid (HF.out.trans hb2); have zz := HF.out.blk HZ1.out hneb (by decide); have q1 := blk_cell zz 0 (.string x.key) (by rw [HCX5.out]; rfl); clear hd2 hb2)
  | (go_at_call 173; ((with_reducible refine (c173 B b _ x.key _ HD.out hsz.1 (by omega) (by have := HF.out.size; have := HSB.out; omega) (utf8_below HT.out hT4 (HBW.out.trans HF.out.bel)) ⟨hT4, by have := HF.out.size; have := HSB.out; omega⟩).mono ?_); rintro e w2 ⟨rfl, hd2, hb2⟩; have HD := Lib.hid hd2; have HF := Lib.hid (HF.out.trans hb2); have zz := HF.out.blk HZ1.out hneb (by decide); have q1 := blk_cell zz 0 (.string x.key) (by rw [HCX5.out]; rfl); clear hd2 hb2))
  | (go_at_call 174; (with_reducible refine (c174 B b _ x.str _ HD.out hsz.2 (by omega) (by have := HF.out.size; have := HSB.out; omega) (utf8_below HT.out hT4 (HBW.out.trans HF.out.bel)) hT4).mono ?_); rintro e w2 ⟨rfl, hd2, hb2⟩; have HD := Lib.hid hd2; have HF := Lib.hid (HF.out.trans hb2); have zz := HF.out.blk HZ1.out hneb (by decide); have q1 := blk_cell zz 0 (.string x.key) (by rw [HCX5.out]; rfl); clear hd2 hb2)
  | ((with_reducible refine arm_load (kv_val zz HCX5.out) ?_ 4 info85 Tryz.underlying85 ?_ ?_ ?_); rfl; rfl; rfl))
 by_cases hk0 : k = 0
 · (
 have j1 : ¬ (0 : Int) < (k : Int) := by omega
 have j2 : (k : Int) ≤ 0 := by omega
 go_wp2_with (first
 | ((with_reducible refine arm_load ca2 ?_ 5 info87 Tryz.underlying87 ?_ ?_ ?_); rfl; rfl; exact sx)
 | ((with_reducible apply arm_store_new 5 info87); rfl; simp; rfl; rfl; assumption; assumption)
 | (go_at_call 172; (with_reducible refine (bd_byte B b _ 44 44 _ HD.out rfl (by omega) (by have := HF.out.size; have := HSB.out; omega)).mono ?_); rintro e w2 ⟨rfl, hd2, hb2⟩; have HD := Lib.hid hd2; have HF := Lib.hid (HF.out.trans hb2); have zz := HF.out.blk HZ1.out hneb (by decide); have q1 := blk_cell zz 0 (.string x.key) (by rw [HCX5.out]; rfl); clear hd2 hb2)
 | (go_at_call 172; (with_reducible refine (bd_byte B b _ 58 58 _ HD.out rfl (by omega) (by have := HF.out.size; have := HSB.out; omega)).mono ?_); rintro e w2 ⟨rfl, hd2, hb2⟩; have HD := Lib.hid hd2; have HF := Lib.hid (HF.out.trans hb2); have zz := HF.out.blk HZ1.out hneb (by decide); have q1 := blk_cell zz 0 (.string x.key) (by rw [HCX5.out]; rfl); clear hd2 hb2)
 | (go_at_call 173; ((with_reducible refine (c173 B b _ x.key _ HD.out hsz.1 (by omega) (by have := HF.out.size; have := HSB.out; omega) (utf8_below HT.out hT4 (HBW.out.trans HF.out.bel)) ⟨hT4, by have := HF.out.size; have := HSB.out; omega⟩).mono ?_); rintro e w2 ⟨rfl, hd2, hb2⟩; have HD := Lib.hid hd2; have HF := Lib.hid (HF.out.trans hb2); have zz := HF.out.blk HZ1.out hneb (by decide); have q1 := blk_cell zz 0 (.string x.key) (by rw [HCX5.out]; rfl); clear hd2 hb2))
 | (go_at_call 174; (with_reducible refine (c174 B b _ x.str _ HD.out hsz.2 (by omega) (by have := HF.out.size; have := HSB.out; omega) (utf8_below HT.out hT4 (HBW.out.trans HF.out.bel)) hT4).mono ?_); rintro e w2 ⟨rfl, hd2, hb2⟩; have HD := Lib.hid hd2; have HF := Lib.hid (HF.out.trans hb2); have zz := HF.out.blk HZ1.out hneb (by decide); have q1 := blk_cell zz 0 (.string x.key) (by rw [HCX5.out]; rfl); clear hd2 hb2)
 | ((with_reducible refine arm_load (kv_val zz HCX5.out) ?_ 4 info85 Tryz.underlying85 ?_ ?_ ?_); rfl; rfl; rfl))
 go_roundw
 case rel => exact ⟨k + 1, by omega, by go_num, HD.out.mono (by omega), HBW.out.trans HF.out.bel⟩
 case measure => simp [intOf]; omega)
 · (
 have j1 : (0 : Int) < (k : Int) := by omega
 go_wp2_with (first
 | ((with_reducible refine arm_load ca2 ?_ 5 info87 Tryz.underlying87 ?_ ?_ ?_); rfl; rfl; exact sx)
 | ((with_reducible apply arm_store_new 5 info87); rfl; simp; rfl; rfl; assumption; assumption)
 | (go_at_call 172; (with_reducible refine (bd_byte B b _ 44 44 _ HD.out rfl (by omega) (by have := HF.out.size; have := HSB.out; omega)).mono ?_); rintro e w2 ⟨rfl, hd2, hb2⟩; have HD := Lib.hid hd2; have HF := Lib.hid (HF.out.trans hb2); have zz := HF.out.blk HZ1.out hneb (by decide); have q1 := blk_cell zz 0 (.string x.key) (by rw [HCX5.out]; rfl); clear hd2 hb2)
 | (go_at_call 172; (with_reducible refine (bd_byte B b _ 58 58 _ HD.out rfl (by omega) (by have := HF.out.size; have := HSB.out; omega)).mono ?_); rintro e w2 ⟨rfl, hd2, hb2⟩; have HD := Lib.hid hd2; have HF := Lib.hid (HF.out.trans hb2); have zz := HF.out.blk HZ1.out hneb (by decide); have q1 := blk_cell zz 0 (.string x.key) (by rw [HCX5.out]; rfl); clear hd2 hb2)
 | (go_at_call 173; ((with_reducible refine (c173 B b _ x.key _ HD.out hsz.1 (by omega) (by have := HF.out.size; have := HSB.out; omega) (utf8_below HT.out hT4 (HBW.out.trans HF.out.bel)) ⟨hT4, by have := HF.out.size; have := HSB.out; omega⟩).mono ?_); rintro e w2 ⟨rfl, hd2, hb2⟩; have HD := Lib.hid hd2; have HF := Lib.hid (HF.out.trans hb2); have zz := HF.out.blk HZ1.out hneb (by decide); have q1 := blk_cell zz 0 (.string x.key) (by rw [HCX5.out]; rfl); clear hd2 hb2))
 | (go_at_call 174; (with_reducible refine (c174 B b _ x.str _ HD.out hsz.2 (by omega) (by have := HF.out.size; have := HSB.out; omega) (utf8_below HT.out hT4 (HBW.out.trans HF.out.bel)) hT4).mono ?_); rintro e w2 ⟨rfl, hd2, hb2⟩; have HD := Lib.hid hd2; have HF := Lib.hid (HF.out.trans hb2); have zz := HF.out.blk HZ1.out hneb (by decide); have q1 := blk_cell zz 0 (.string x.key) (by rw [HCX5.out]; rfl); clear hd2 hb2)
 | ((with_reducible refine arm_load (kv_val zz HCX5.out) ?_ 4 info85 Tryz.underlying85 ?_ ?_ ?_); rfl; rfl; rfl))
 go_roundw
 case rel => exact ⟨k + 1, by omega, by go_num, HD.out.mono (by omega), HBW.out.trans HF.out.bel⟩
 case measure => simp [intOf]; omega))
 · (
 clear hd hb
 have f2 : ¬ (k : Int) < (n : Int) := by omega
 go_wp2_with (go_at_call 172; (with_reducible refine (bd_byte B b _ 125 125 _ HD.out rfl (by omega) (by have := HBW.out.size; omega)).mono ?_); rintro e w2 ⟨rfl, hd2, hb2⟩)
 go_end0
 exact ⟨rfl, hd2.mono (by omega), HBW.out.trans hb2.bel⟩))))
theorem c160 (A : Option Addr) (n c : Nat) (l : List KV) (w : World) (h : Rd w w.heap.size 5 A n c (l.map enc5)) (hs : ∀ x ∈ l, IsStr x) (hz : ∀ x ∈ l, x.key.size ≤ 100 ∧ x.str.size ≤ 100) (h8 : n ≤ 8) (hT : Lib.Utf8Tabs 3 4 w) (hT4 : 4 < w.heap.size) :
 Calls Tryz.prog 160 #[.slice A n c] w fun e w' => (∃ t, e = .returned (.string t)) ∧ Below w.heap.size w w' := by
 obtain ⟨W0, hW0⟩ : ∃ W0, W0 = w.alloc (.cells #[.pointer none, .slice none 0 0] 299) := ⟨_, rfl⟩
 have hb : Below w.heap.size w W0 := ba hW0
 have hzb : W0.heap[w.heap.size]? = some (.cells #[.pointer none, .slice none 0 0] 299 (0, 0)) := by rw [hW0]; exact heap_alloc_new w _
 have C := Lib.hid (c166 w.heap.size w.heap.size A n c l W0 (Nat.le_refl _) hzb hb.size (h.below hb) hs hz h8 (utf8_below hT hT4 hb) hT4)
 have HW := Lib.hid hW0
 have HB := Lib.hid hb
 clear hW0 hb hzb h hs hz hT
 go_enter Tryz.func160, Tryz.ntmps160
 go_upto_region 2 with fail
 rw [← HW.out]
 go_wp2_with (first
  | (go_at_call 166; refine C.out.mono ?_; rintro e w1 ⟨rfl, ⟨bl, hbd, hbn⟩, hb1⟩)
  | (go_at_call 167; refine (Any.Builder_String_any_k Tryz.lays169 Tryz.Builder_Extra_169 w.heap.size w.heap.size bl w1 (.inr hbd) (Nat.le_trans HB.out.size hb1.size)).mono ?_; rintro e w2 ⟨rfl, _, hb2, _⟩))
 go_ret
 exact ⟨⟨_, rfl⟩, (HB.out.trans hb1).trans hb2⟩
theorem asrt78 (v : Value) (w : World) : (Instr.typeAssert (.iface 78 v) 20 78 true).run Tryz.prog w = .ok (.tuple #[v, .bool true]) w := by kernel_rfl
theorem c144 (A : Option Addr) (n c : Nat) (l : List KV) (w : World) (h : Rd w w.heap.size 5 A n c (l.map enc5)) (hs : ∀ x ∈ l, IsStr x) (hz : ∀ x ∈ l, x.key.size ≤ 100 ∧ x.str.size ≤ 100) (h8 : n ≤ 8) (hT : Lib.Utf8Tabs 3 4 w) (hT4 : 4 < w.heap.size) :
 Calls Tryz.prog 144 #[.iface 78 (.slice A n c)] w fun e w' => (∃ t, e = .returned (.string t)) ∧ Below w.heap.size w w' := by
 have C := Lib.hid (c160 A n c l w h hs hz h8 hT hT4)
 have ha := asrt78
 clear h hs hz hT
 go_enter Tryz.func144, Tryz.ntmps144
 go_wp2_with (go_at_call 160; refine C.out.mono ?_; rintro e w1 ⟨⟨t, rfl⟩, hb1⟩)
 go_ret
 exact ⟨⟨_, rfl⟩, hb1⟩
theorem c99 (l1 : List KV) (s1 : Sl) (b1 : Nat) (w : World) (h1 : SetR w w.heap.size s1 l1) (hT : Lib.Utf8Tabs 3 4 w) (hT4 : 4 < w.heap.size)
 (x0 : w.cell? ⟨b1, 0, none⟩ = some (.int .u64 (hashL l1))) (x1 : w.cell? ⟨b1, 1, none⟩ = some (.slice s1.A s1.n s1.c)) :
 Calls Tryz.prog 99 #[.pointer (some ⟨b1, 0, none⟩)] w fun e w' => (∃ t, e = .returned (.string t)) ∧ Below w.heap.size w w' := by
 have n1 := hashL_ne l1 sum64_nil
 obtain ⟨H1, hH1⟩ : ∃ H, H = hashL l1 := ⟨_, rfl⟩
 rw [← hH1] at x0 n1
 have m1 : (H1 == 0) = false := by simpa using n1
 have hl := h1.rd.numlen
 have hl8 := h1.len
 have C := Lib.hid (c144 s1.A s1.n s1.c l1 w h1.rd h1.str h1.small (by omega) hT hT4)
 clear h1 hT hH1 n1 hl hl8
 go_enter Tryz.func99, Tryz.ntmps99
 go_wp2_with (go_at_call 144; refine C.out.mono ?_; rintro e w1 ⟨⟨t, rfl⟩, hb1⟩)
 go_ret
 exact ⟨⟨_, rfl⟩, hb1⟩
end Go.Proofs.YtlpddogcnpokfaaGreatDoor
