/- Contracts of functions of the program, for the comparison of aggregations (part KA5). -/
import Derived.Test.YtlpddogcnpokfaaGreatDoorKA4
import Derived.Lib.AppendStr
import Derived.Test.YtlpddogcnpokfaaGreatDoorKA3
import Derived.Deep.RegionHeld3
set_option linter.all false
namespace Go.Proofs.YtlpddogcnpokfaaGreatDoor
open Go.RowKit
section
section
variable {P : Program} {ops : Array Oper} {rest : List Oper} {a : Act} {Q : Exit → Act → World → Prop} {d : Option Tmp} {tt : TypeId} {ps : String} {af : Array Edge}
/-- A whole block stored anew. -/
theorem arm_store_whole {ty : TypeId} {x y : Operand} {w : World} {b : Nat} {e : TypeId} {zs cs : Array Value} (n : Nat) (hi : (P.info? ty).map (·.size) = some n) (hz : w.heap[b]? = some (.cells zs e (0, 0)))
 (hx : a.eval x = .pointer (some ⟨b, 0, none⟩)) (hy : a.eval y = .agg cs) (hzs : zs.size = n) (hcs : cs.size = n) (h1 : cs.toList.all (·.oneCell') = true)
 (h : ∀ w', w'.heap[b]? = some (.cells cs e (0, 0)) → (∀ b', b' ≠ b → w'.heap[b']? = w.heap[b']?) → (∀ B a, B ≤ b → Below B a w → Below B a w') → w'.heap.size = w.heap.size → wpList P ops Q rest (a.put d undef) w') :
 wpList P ops Q (⟨d, .store ty x y, tt, ps, af, none⟩ :: rest) a w := by
 refine wpList_store_mid rfl ty x y rfl b 0 cs hx hy (there_whole hz _ (by omega)) (by rw [hcs]; exact hi) (by rw [← Array.all_toList]; exact h1) ?_
 refine h _ (by simpa using setCells_whole hz cs.toList (by simp; omega)) (fun b' hb' => ?_) (fun B a hB hw => below_setCells hB _ _ _ hw) (size_setCells' _ _ _ _)
 by_cases hlt : b' < w.heap.size
 · exact heap_keep_setCells _ _ _ rfl hb' hlt
 · rw [Array.getElem?_eq_none (by rw [size_setCells']; omega), Array.getElem?_eq_none (by omega)]
end
theorem info85 : (Tryz.prog.info? 85).map (·.size) = some 4 := by kernel_rfl
theorem info87 : (Tryz.prog.info? 87).map (·.size) = some 5 := by kernel_rfl
theorem c136 (s : ByteArray) (w : World) : Calls Tryz.prog 136 #[.string s] w fun e w' => e = .returned (.agg #[.int .i64 4, .int .u64 0, .string s, .nilIface]) ∧ Below w.heap.size w w' := by
 go_enter Tryz.func136, Tryz.ntmps136
 go_wp2_with fail
 refine bodyPost_ret (results_cell_row rfl _ _ _ _ _ _ _ rfl (heap_alloc_new w _) Tryz.underlying85 rfl info85) rfl ⟨rfl, (Below.refl _ _).alloc (Nat.le_refl _) _⟩
def strKV (k s : ByteArray) : KV := ⟨k, 4, 0, s⟩
theorem c91 (k s : ByteArray) (w : World) : Calls Tryz.prog 91 #[.string k, .string s] w fun e w' => e = .returned (.agg (enc5 (strKV k s)).toArray) ∧ Below w.heap.size w w' := by
 go_enter Tryz.func91, Tryz.ntmps91
 go_upto_region 1 with fail
 obtain ⟨W0, hW0⟩ : ∃ W0, W0 = w.alloc (.cells #[.string ⟨#[]⟩, .int .i64 0, .int .u64 0, .string ⟨#[]⟩, .nilIface] 87) := ⟨_, rfl⟩
 rw [← hW0]
 have hz : W0.heap[w.heap.size]? = some (.cells #[.string ⟨#[]⟩, .int .i64 0, .int .u64 0, .string ⟨#[]⟩, .nilIface] 87 (0, 0)) := by rw [hW0]; exact heap_alloc_new w _
 have hb : Below w.heap.size w W0 := ba hW0
 have hsz : w.heap.size < W0.heap.size := by rw [hW0]; simp
 clear hW0
 go_wp2_with (first
  | (go_at_call 136; refine (c136 _ _).mono ?_; rintro e w1 ⟨rfl, hb1⟩; have hz1 : w1.heap[w.heap.size]? = _ := (hb1.block _ hsz).trans hz)
  | ((with_reducible apply arm_store_whole 5 info87 hz1); rfl; rfl; rfl; rfl; rfl; intro w2 g1 g2 g3 g4))
 refine bodyPost_ret (results_cell_row rfl _ _ _ _ _ _ _ rfl g1 Tryz.underlying87 rfl info87) rfl ⟨rfl, g3 _ _ (Nat.le_refl _) (below_then hb (Nat.le_of_lt hsz) hb1)⟩
theorem c53 (k s : ByteArray) (w : World) : Calls Tryz.prog 53 #[.string k, .string s] w fun e w' => e = .returned (.agg (enc5 (strKV k s)).toArray) ∧ Below w.heap.size w w' := by
 go_enter Tryz.func53, Tryz.ntmps53
 go_upto_region 1 with fail
 obtain ⟨W0, hW0⟩ : ∃ W0, W0 = w.alloc (.cells #[.string ⟨#[]⟩, .int .i64 0, .int .u64 0, .string ⟨#[]⟩, .nilIface] 87) := ⟨_, rfl⟩
 rw [← hW0]
 have hz : W0.heap[w.heap.size]? = some (.cells #[.string ⟨#[]⟩, .int .i64 0, .int .u64 0, .string ⟨#[]⟩, .nilIface] 87 (0, 0)) := by rw [hW0]; exact heap_alloc_new w _
 have hb : Below w.heap.size w W0 := ba hW0
 have hsz : w.heap.size < W0.heap.size := by rw [hW0]; simp
 clear hW0
 go_wp2_with (first
  | (go_at_call 91; refine (c91 _ _ _).mono ?_; rintro e w1 ⟨rfl, hb1⟩; have hz1 : w1.heap[w.heap.size]? = _ := (hb1.block _ hsz).trans hz)
  | ((with_reducible apply arm_store_whole 5 info87 hz1); rfl; rfl; rfl; rfl; rfl; intro w2 g1 g2 g3 g4))
 refine bodyPost_ret (results_cell_row rfl _ _ _ _ _ _ _ rfl g1 Tryz.underlying87 rfl info87) rfl ⟨rfl, g3 _ _ (Nat.le_refl _) (below_then hb (Nat.le_of_lt hsz) hb1)⟩
theorem c133 (k : ByteArray) (w : World) : Calls Tryz.prog 133 #[.string k] w fun e w' => e = .returned (.bool false) ∧ w = w' := by
 go_enter Tryz.func133, Tryz.ntmps133
 go_wp2_with fail
 go_ret
 exact ⟨by simp, rfl⟩
end
section
theorem cmp_three : ∀ (x y : List UInt8), Lib.compareBytes x y = if Op.bytesLess x y then -1 else if x == y then 0 else 1
 | [], [] => by simp [Lib.compareBytes, Op.bytesLess]
 | [], _ :: _ => by simp [Lib.compareBytes, Op.bytesLess]
 | _ :: _, [] => by simp [Lib.compareBytes, Op.bytesLess]
 | a :: x, b :: y => by
  rw [Lib.compareBytes, Op.bytesLess, cmp_three x y]
  rcases UInt8.lt_or_lt_of_ne (a := a) (b := b) |> fun h => (Classical.em (a = b)).elim Or.inl (fun hn => Or.inr (h hn)) with h | h | h
  · subst h
    simp [UInt8.lt_irrefl]
  · simp [h]
  · (
  have h1 : ¬ a < b := UInt8.lt_asymm h
  have h2 : ¬ a = b := fun e => by subst e; exact UInt8.lt_irrefl _ h
  simp [h, h1, h2])
theorem c87 (x y : ByteArray) (w : World) : Calls Tryz.prog 87 #[.string x, .string y] w fun e w' => e = .returned (.int .i64 (Lib.compareBytes x.data.toList y.data.toList)) ∧ w = w' := by
 rw [cmp_three, ← ByteArray.toList_eq, ← ByteArray.toList_eq]
 cases h1 : Op.bytesLess x.toList y.toList
 · (
 cases h2 : x.toList == y.toList
 all_goals
  go_enter Tryz.func87, Tryz.ntmps87
  go_wp2_with (go_at_call 133; refine (c133 _ _).mono ?_; rintro e w' ⟨rfl, rfl⟩)
  go_ret
  exact ⟨by simp [h1, h2], rfl⟩)
 · (
 go_enter Tryz.func87, Tryz.ntmps87
 go_wp2_with (go_at_call 133; refine (c133 _ _).mono ?_; rintro e w' ⟨rfl, rfl⟩)
 go_ret
 exact ⟨by simp [h1], rfl⟩)
theorem c86 (x y : KV) (w : World) : Calls Tryz.prog 86 #[.agg (enc5 x).toArray, .agg (enc5 y).toArray] w fun e w' => e = .returned (.int .i64 (cmpK x y)) ∧ ∃ q os', w' = Go.Sort.grow (w.drewN q) os' := by
 unfold enc5 cmpK
 generalize hr : Lib.compareBytes x.key.data.toList y.key.data.toList = r
 have hcon := fun W => c87 x.key y.key W
 rw [hr] at hcon
 have hcon' := Lib.hid hcon
 clear hcon hr
 go_enter Tryz.func86, Tryz.ntmps86
 go_wp2_with (go_at_call 87; refine (hcon'.out _).mono ?_; rintro e w' ⟨rfl, rfl⟩)
 go_ret
 exact ⟨rfl, 0, _, by rw [Go.Sort.alloc_eq_grow, Go.Sort.alloc_eq_grow, Go.Sort.grow_grow]; rfl⟩
end
section
open Go.Sort
theorem cmpLays86 (blk off size : Nat) (w : World) : CmpLays Tryz.prog 86 #[] enc5 5 cmpK blk off size w := fun _ _ _ _ x y => c86 x y _
theorem eg86 : ∀ args w, (callFunc 86 args).run Tryz.prog w = .ok (.enter 86 args) w := enters_of Tryz.func86 (by kernel_rfl) rfl
theorem c150 (blk off cap n : Nat) (d : Array KV) (w : World) (hH : HoldsK enc5 5 w blk off d) (hblk : blk < w.heap.size) (hn : d.size = n) (h8 : n ≤ 20) :
 Calls Tryz.prog 150 #[.slice (some ⟨blk, off, none⟩) n cap, .int .i64 0, .int .i64 n, .func (.func 86) #[] #[]] w fun e w' => e = .returned (.tuple #[]) ∧ ∃ m os, w' = sortWorldK enc5 5 w blk off m (sortA d) os := by
 subst hn
 exact AnyQ.insertionSortCmpFunc Tryz.sl150 5 Tryz.isAgg87 Tryz.sizeOf87 enc5 (fun _ => rfl) (fun x v hv => by simp [enc5] at hv; rcases hv with rfl | rfl | rfl | rfl | rfl <;> rfl) cmpK 86 #[] blk off cap 0 d.size d w eg86 (cmpLays86 blk off d.size w) hH hblk (Nat.zero_le _) (Nat.le_refl _) (by omega)
theorem c132 (blk off cap n : Nat) (d : Array KV) (w : World) (hH : HoldsK enc5 5 w blk off d) (hblk : blk < w.heap.size) (hn : d.size = n) (h8 : n < 20) :
 Calls Tryz.prog 132 #[.slice (some ⟨blk, off, none⟩) n cap, .int .i64 n, .func (.func 86) #[] #[]] w fun e w' => e = .returned (.tuple #[]) ∧ ∃ m os, w' = sortWorldK enc5 5 w blk off m (sortA d) os := by
 have C := Lib.hid (c150 blk off cap n d w hH hblk hn (by omega))
 clear hH hn
 have f1 : ¬ (20 : Int) ≤ (n : Int) := by omega
 have f2 : ¬ (20 : Int) < (n : Int) := by omega
 go_enter Tryz.func132, Tryz.ntmps132
 go_wp2_with fail
 refine wp_loop_once ?_
 go_wp2_with (go_at_call 150; refine C.out.mono ?_; rintro e w1 ⟨rfl, m, os, rfl⟩)
 refine wp_loop_once ?_
 go_wp2_with fail
 go_end0
 exact ⟨rfl, m, os, rfl⟩
theorem c85 (blk off cap n : Nat) (d : Array KV) (w : World) (hH : HoldsK enc5 5 w blk off d) (hblk : blk < w.heap.size) (hn : d.size = n) (h8 : n < 20) :
 Calls Tryz.prog 85 #[.slice (some ⟨blk, off, none⟩) n cap, .func (.func 86) #[] #[]] w fun e w' => e = .returned (.tuple #[]) ∧ ∃ m os, w' = sortWorldK enc5 5 w blk off m (sortA d) os := by
 have C := Lib.hid (c132 blk off cap n d w hH hblk hn h8)
 clear hH hn
 go_enter Tryz.func85, Tryz.ntmps85
 go_wp2_with (go_at_call 132; refine C.out.mono ?_; rintro e w1 ⟨rfl, m, os, rfl⟩)
 go_end0
 exact ⟨rfl, m, os, rfl⟩
end
section
open Go.Sort
def rotl (x k : Int) : Int := bits BinOp.or IntKind.u64 (IntKind.u64.wrap (x * 2 ^ k.toNat)) (x / 2 ^ (64 - k).toNat)
theorem c157 (x : Int) (k : Int) (hk : k = 1 ∨ k = 7 ∨ k = 11 ∨ k = 12 ∨ k = 18 ∨ k = 23 ∨ k = 27 ∨ k = 31) (w : World) : Calls Tryz.prog 157 #[.int .u64 x, .int .i64 k] w fun e w' => e = .returned (.int .u64 (rotl x k)) ∧ w = w' := by
 have q : bits BinOp.and IntKind.u64 k 63 = k := by rcases hk with rfl | rfl | rfl | rfl | rfl | rfl | rfl | rfl <;> decide
 have q1 : 0 ≤ k ∧ k ≤ 64 := by omega
 obtain ⟨q2, q3⟩ := q1
 have q4 : IntKind.u64.wrap k = k := by rcases hk with rfl | rfl | rfl | rfl | rfl | rfl | rfl | rfl <;> decide
 have q5 : IntKind.u64.wrap (64 - k) = 64 - k := by rcases hk with rfl | rfl | rfl | rfl | rfl | rfl | rfl | rfl <;> decide
 have q6 : 0 ≤ 64 - k ∧ 64 - k ≤ 64 := by omega
 obtain ⟨q7, q8⟩ := q6
 clear hk
 go_enter Tryz.func157, Tryz.ntmps157
 go_wp2_with fail
 go_ret
 exact ⟨rfl, rfl⟩
def hround (a b : Int) : Int := IntKind.u64.wrap (rotl (IntKind.u64.wrap (a + IntKind.u64.wrap (b * 14029467366897019727))) 31 * 11400714785074694791)
theorem c155 (a b : Int) (w : World) : Calls Tryz.prog 155 #[.int .u64 a, .int .u64 b] w fun e w' => e = .returned (.int .u64 (hround a b)) ∧ w = w' := by
 go_enter Tryz.func155, Tryz.ntmps155
 go_wp2_with (go_at_call 157; refine (c157 _ _ (by omega) _).mono ?_; rintro e w' ⟨rfl, rfl⟩)
 go_ret
 exact ⟨rfl, rfl⟩
def hmerge (a b : Int) : Int := IntKind.u64.wrap (IntKind.u64.wrap (bits BinOp.xor IntKind.u64 a (hround 0 b) * 11400714785074694791) + 9650029242287828579)
theorem c158 (a b : Int) (w : World) : Calls Tryz.prog 158 #[.int .u64 a, .int .u64 b] w fun e w' => e = .returned (.int .u64 (hmerge a b)) ∧ w = w' := by
 go_enter Tryz.func158, Tryz.ntmps158
 go_wp2_with (go_at_call 155; refine (c155 _ _ _).mono ?_; rintro e w' ⟨rfl, rfl⟩)
 go_ret
 exact ⟨rfl, rfl⟩
end
section
def byteV (b : UInt8) : Value := .int .u8 b.toNat
/-- The digest: a block of one cell that holds a []byte which owns its bytes. -/
def Dig (w : World) (B q : Nat) (bs : List UInt8) : Prop :=
 B ≤ q ∧ ∃ v, w.heap[q]? = some (.cells #[v] 281 (0, 0)) ∧ w.ownsRow B 5 1 v bs.length (bs.map byteV)
theorem info5 : (Tryz.prog.info? 5).map (fun i => (i.zero, i.size, i.bytes)) = some (some (.int .u8 0), 1, 1) := by kernel_rfl
theorem own_grown_ne {w : World} {B size n q : Nat} {v u : Value} {e t : TypeId} {xs : List Value} (h : w.ownsRow B e size v n xs) (hq : w.heap[q]? = some (.cells #[u] t (0, 0))) (ht : e ≠ t) : v.ownBlock ≠ some q := by
 rcases h.2 with ⟨rfl, _⟩ | ⟨g, cap, cur, rfl, hb, hh, rest⟩
 · simp [Value.ownBlock]
 · (
 intro he
 have : g = q := by simpa [Value.ownBlock] using he
 subst this
 rw [hh] at hq
 simp at hq
 exact ht hq.2)
theorem own_of_block {w w' : World} {B size n : Nat} {v : Value} {e : TypeId} {xs : List Value} (h : w.ownsRow B e size v n xs) (hk : ∀ g, v.ownBlock = some g → w'.heap[g]? = w.heap[g]?) : w'.ownsRow B e size v n xs := by
 refine ⟨h.1, ?_⟩
 rcases h.2 with h1 | ⟨g, cap, cur, rfl, hb, hh, rest⟩
 · exact .inl h1
 · exact .inr ⟨g, cap, cur, rfl, hb, by rw [hk g rfl]; exact hh, rest⟩
theorem own_slice {w : World} {B size n : Nat} {v : Value} {e : TypeId} {xs : List Value} (h : w.ownsRow B e size v n xs) : ∃ A c, v = .slice A n c := by
 rcases h.2 with ⟨rfl, rfl⟩ | ⟨g, cap, cur, rfl, rest⟩
 · exact ⟨none, 0, rfl⟩
 · exact ⟨_, cap, rfl⟩
theorem own_ge {w : World} {B size n g : Nat} {v : Value} {e : TypeId} {xs : List Value} (h : w.ownsRow B e size v n xs) (hg : v.ownBlock = some g) : B ≤ g := by
 rcases h.2 with ⟨rfl, _⟩ | ⟨g', cap, cur, rfl, hb, rest⟩
 · simp [Value.ownBlock] at hg
 · have : g' = g := by simpa [Value.ownBlock] using hg
   omega
theorem frozen_blk {w : World} {b : Nat} {cs : Array Value} {e : TypeId} (h : w.heap[b]? = some (.cells cs e (0, 0))) (i : Nat) : w.frozen? ⟨b, i, none⟩ = false := by simp [World.frozen?, h]
/-- What the digest's writes leave alone: every block but the digest's own, and those of bytes. -/
def Kept (q : Nat) (w w' : World) : Prop := w.heap.size ≤ w'.heap.size ∧ ∀ b, b < w.heap.size → b ≠ q → (∀ cur fr, w.heap[b]? ≠ some (.cells cur 5 fr)) → w'.heap[b]? = w.heap[b]?
theorem Kept.refl (q : Nat) (w : World) : Kept q w w := ⟨Nat.le_refl _, fun _ _ _ _ => rfl⟩
theorem Kept.trans {q : Nat} {w w1 w2 : World} (h : Kept q w w1) (k : Kept q w1 w2) : Kept q w w2 :=
 ⟨Nat.le_trans h.1 k.1, fun b hb hq h5 => by
  have e := h.2 b hb hq h5
  exact (k.2 b (Nat.lt_of_lt_of_le hb h.1) hq (by rw [e]; exact h5)).trans e⟩
theorem Kept.below {q : Nat} {w w1 : World} (h : Below w.heap.size w w1) : Kept q w w1 := ⟨h.size, fun b hb _ _ => h.block b hb⟩
theorem Kept.blk {q b : Nat} {w w' : World} (h : Kept q w w') {cs : Array Value} {e : TypeId} {fr : Nat × Nat} (hb : w.heap[b]? = some (.cells cs e fr)) (hq : b ≠ q) (he : e ≠ 5) : w'.heap[b]? = some (.cells cs e fr) :=
 (h.2 b (Array.getElem?_eq_some_iff.1 hb).1 hq (fun cur fr2 h2 => by rw [hb] at h2; simp at h2; exact he h2.2.1)).trans hb
theorem kept_grown {q B n : Nat} {w w1 : World} {v : Value} {xs : List Value} (ho : w.ownsRow B 5 1 v n xs) (hg : w.grownBy w1 v.ownBlock) : Kept q w w1 :=
 ⟨hg.size, fun b hb _ h5 => hg.block b hb (fun e => by
  rcases ho.2 with ⟨rfl, _⟩ | ⟨g, cap, cur, rfl, hbg, hh, rest⟩
  · simp [Value.ownBlock] at e
  · have : b = g := by simpa [Value.ownBlock] using e
    subst this
    exact h5 _ _ hh)⟩
theorem kept_set {q : Nat} {w w1 : World} (h : Kept q w w1) (v : Value) : Kept q w (w1.setCell ⟨q, 0, none⟩ v) :=
 ⟨by rw [World.size_setCell]; exact h.1, fun b hb hq h5 => (heap_setCell_other w1 _ _ _ (by exact hq)).trans (h.2 b hb hq h5)⟩
set_option maxHeartbeats 400000 in
theorem c175 (B q : Nat) (bs : List UInt8) (s : ByteArray) (w : World) (h : Dig w B q bs) (hB : B ≤ w.heap.size) (hl : bs.length + s.size ≤ 1000000) :
 Calls Tryz.prog 175 #[.pointer (some ⟨q, 0, none⟩), .string s] w fun e w' => e = .returned (.tuple #[.int .i64 s.size, .nilIface]) ∧ Dig w' B q (bs ++ s.data.toList) ∧ Below B w w' ∧ Kept q w w' := by
 obtain ⟨hBq, v, hq, hown⟩ := h
 obtain ⟨i0, hi, hz0, hz1, hz2⟩ := info_parts3 info5
 have hc : w.cell? ⟨q, 0, none⟩ = some v := blk_cell hq 0 v rfl
 have hne := own_grown_ne hown hq (by decide)
 have hqs : q < w.heap.size := (Array.getElem?_eq_some_iff.1 hq).1
 have HO := Lib.hid hown
 have HI := Lib.hid (And.intro hi (And.intro hz0 (And.intro hz1 hz2)))
 have HQ := Lib.hid hq
 have HNE := Lib.hid hne
 clear hown hi hz0 hz1 hz2 hq hne
 go_enter Tryz.func175, Tryz.ntmps175
 go_wp2_with (first
  | (at_builtin; go_loud ((refine Lib.wpList_append_own_string _ rfl _ _ 279 9 rfl B 5 i0 Tryz.underlying279 Tryz.underlying9 HI.out.1 HI.out.2.1 HI.out.2.2.1 HI.out.2.2.2 v bs.length (bs.map byteV) rfl HO.out s rfl ?_ ?_ hB ?_); (simp only [maxLen]; omega); omega; intro v1 w1 hown1 hg1 _; obtain ⟨A1, cc1, rfl⟩ := own_slice hown1; have hq1 : w1.heap[q]? = some (.cells #[v] 281 (0, 0)) := (hg1.block q hqs (fun e => HNE.out e.symm)).trans HQ.out; have hc1 := blk_cell hq1 0 v rfl; have hf1 := frozen_blk hq1 0)))
 go_ret2
 have hne1 := own_grown_ne hown1 hq1 (by decide)
 have hb1 : Below B w w1 := (Below.refl _ _).grown hg1 hB (fun k hk => own_ge HO.out hk)
 have hw2 : (w1.setCell ⟨q, 0, none⟩ (.slice A1 (bs.length + s.size) cc1)).heap[q]? = some (.cells #[.slice A1 (bs.length + s.size) cc1] 281 (0, 0)) := by
  rw [heap_setCell_same w1 q 0 _ _ _ hq1]; rfl
 have hown2 := own_of_block (w' := w1.setCell ⟨q, 0, none⟩ (.slice A1 (bs.length + s.size) cc1)) hown1 (fun g hg => heap_setCell_other w1 _ _ _ (fun e => hne1 (by rw [hg]; exact congrArg some e)))
 refine ⟨rfl, ⟨hBq, .slice A1 (bs.length + s.size) cc1, hw2, ?_⟩, hb1.setCell hBq _, kept_set (kept_grown HO.out hg1) _⟩
 rw [List.length_append, List.map_append]
 exact hown2
end
section
set_option maxHeartbeats 400000 in
theorem c200 (B q : Nat) (bs : List UInt8) (ad : Addr) (n c : Nat) (ps : List UInt8) (w : World) (h : Dig w B q bs) (hB : B ≤ w.heap.size) (hp : ps.length = n) (hsrc : ∀ j u, (ps.map byteV)[j]? = some u → w.cell? (ad.add j) = some u) (hl : bs.length + n ≤ 1000000) :
 Calls Tryz.prog 200 #[.pointer (some ⟨q, 0, none⟩), .slice (some ad) n c] w fun e w' => e = .returned (.tuple #[.int .i64 n, .nilIface]) ∧ Dig w' B q (bs ++ ps) ∧ Below B w w' ∧ Kept q w w' := by
 obtain ⟨hBq, v, hq, hown⟩ := h
 obtain ⟨i0, hi, hz0, hz1, hz2⟩ := info_parts3 info5
 have hc : w.cell? ⟨q, 0, none⟩ = some v := blk_cell hq 0 v rfl
 have hne := own_grown_ne hown hq (by decide)
 have hqs : q < w.heap.size := (Array.getElem?_eq_some_iff.1 hq).1
 have HO := Lib.hid hown
 have HI := Lib.hid (And.intro hi (And.intro hz0 (And.intro hz1 hz2)))
 have HQ := Lib.hid hq
 have HNE := Lib.hid hne
 have HS := Lib.hid hsrc
 have h1 : Hid (∀ u ∈ ps.map byteV, u.oneCell' = true) := Lib.hid (by intro u hu; obtain ⟨b, _, rfl⟩ := List.mem_map.1 hu; rfl)
 have h2 : Hid ((ps.map byteV).length = n * 1) := Lib.hid (by simp [hp])
 clear hown hi hz0 hz1 hz2 hq hne hsrc
 go_enter Tryz.func200, Tryz.ntmps200
 go_wp2_with (first
  | (at_builtin; ((refine wpList_append_own_at _ rfl _ _ 279 rfl B 5 i0 (.int .u8 0) 1 1 Tryz.underlying279 HI.out.1 HI.out.2.1 HI.out.2.2.1 HI.out.2.2.2 rfl (by decide) v bs.length (bs.map byteV) rfl HO.out ad n c (ps.map byteV) rfl h2.out HS.out h1.out ?_ ?_ hB ?_); (simp only [maxLen]; omega); omega; intro v1 w1 hown1 hg1 _ _; obtain ⟨A1, cc1, rfl⟩ := own_slice hown1; have hq1 : w1.heap[q]? = some (.cells #[v] 281 (0, 0)) := (hg1.block q hqs (fun e => HNE.out e.symm)).trans HQ.out; have hc1 := blk_cell hq1 0 v rfl; have hf1 := frozen_blk hq1 0)))
 go_ret2
 have hne1 := own_grown_ne hown1 hq1 (by decide)
 have hb1 : Below B w w1 := (Below.refl _ _).grown hg1 hB (fun k hk => own_ge HO.out hk)
 have hw2 : (w1.setCell ⟨q, 0, none⟩ (.slice A1 (bs.length + n) cc1)).heap[q]? = some (.cells #[.slice A1 (bs.length + n) cc1] 281 (0, 0)) := by
  rw [heap_setCell_same w1 q 0 _ _ _ hq1]; rfl
 have hown2 := own_of_block (w' := w1.setCell ⟨q, 0, none⟩ (.slice A1 (bs.length + n) cc1)) hown1 (fun g hg => heap_setCell_other w1 _ _ _ (fun e => hne1 (by rw [hg]; exact congrArg some e)))
 refine ⟨rfl, ⟨hBq, .slice A1 (bs.length + n) cc1, hw2, ?_⟩, hb1.setCell hBq _, kept_set (kept_grown HO.out hg1) _⟩
 rw [List.length_append, List.map_append, hp]
 exact hown2
theorem c137 (w : World) : Calls Tryz.prog 137 #[] w fun e w' => ∃ q, e = .returned (.pointer (some ⟨q, 0, none⟩)) ∧ Dig w' w.heap.size q [] ∧ Below w.heap.size w w' := by
 go_enter Tryz.func137, Tryz.ntmps137
 go_wp2_with fail
 go_ret
 exact ⟨w.heap.size, rfl, ⟨Nat.le_refl _, .slice none 0 0, heap_alloc_new w _, ⟨rfl, .inl ⟨rfl, rfl⟩⟩⟩, (Below.refl _ _).alloc (Nat.le_refl _) _⟩
theorem info203 : (Tryz.prog.info? 203).map (·.size) = some 1 := by kernel_rfl
theorem dig_mono {w : World} {B B' q : Nat} {bs : List UInt8} (h : Dig w B q bs) (hB : B' ≤ B) : Dig w B' q bs := by
 obtain ⟨h1, v, h2, h3, h4⟩ := h
 refine ⟨by omega, v, h2, h3, ?_⟩
 rcases h4 with h4 | ⟨g, cap, cur, rfl, hb, rest⟩
 · exact .inl h4
 · exact .inr ⟨g, cap, cur, rfl, by omega, rest⟩
theorem dig_keep {w w' : World} {B q : Nat} {bs : List UInt8} (h : Dig w B q bs) (hk : ∀ b, B ≤ b → b < w.heap.size → w'.heap[b]? = w.heap[b]?) : Dig w' B q bs := by
 obtain ⟨h1, v, h2, h3⟩ := h
 refine ⟨h1, v, (hk q h1 (Array.getElem?_eq_some_iff.1 h2).1).trans h2, own_of_block h3 (fun g hg => hk g (own_ge h3 hg) ?_)⟩
 rcases h3.2 with ⟨rfl, _⟩ | ⟨g', cap, cur, rfl, hb, hh, rest⟩
 · simp [Value.ownBlock] at hg
 · (
 have : g' = g := by simpa [Value.ownBlock] using hg
 subst this
 exact (Array.getElem?_eq_some_iff.1 hh).1)
theorem c92 (w : World) : Calls Tryz.prog 92 #[] w fun e w' => ∃ q, e = .returned (.agg #[.pointer (some ⟨q, 0, none⟩)]) ∧ Dig w' w.heap.size q [] ∧ Below w.heap.size w w' := by
 go_enter Tryz.func92, Tryz.ntmps92
 go_upto_region 1 with fail
 obtain ⟨W0, hW0⟩ : ∃ W0, W0 = w.alloc (.cells #[.pointer none] 203) := ⟨_, rfl⟩
 rw [← hW0]
 have hz : W0.heap[w.heap.size]? = some (.cells #[.pointer none] 203 (0, 0)) := by rw [hW0]; exact heap_alloc_new w _
 have hb : Below w.heap.size w W0 := ba hW0
 have hsz : w.heap.size < W0.heap.size := by rw [hW0]; simp
 clear hW0
 go_wp2_with (first
  | (go_at_call 137; refine (c137 _).mono ?_; rintro e w1 ⟨q, rfl, hd, hb1⟩; have hz1 : w1.heap[w.heap.size]? = _ := (hb1.block _ hsz).trans hz)
  | ((with_reducible apply arm_store_whole 1 info203 hz1); rfl; rfl; rfl; rfl; rfl; intro w2 g1 g2 g3 g4))
 refine bodyPost_ret (results_cell_row rfl _ _ _ _ _ _ _ rfl g1 Tryz.underlying203 rfl info203) rfl ⟨q, rfl, ?_, g3 _ _ (Nat.le_refl _) (below_then hb (Nat.le_of_lt hsz) hb1)⟩
 exact dig_mono (dig_keep hd (fun b hb2 _ => g2 b (by omega))) (Nat.le_of_lt hsz)
end
section
theorem dig_other {w w' : World} {B q x : Nat} {bs : List UInt8} (h : Dig w B q bs) {cs : Array Value} {e : TypeId} {fr : Nat × Nat} (hx : w.heap[x]? = some (.cells cs e fr)) (he : e ≠ 5) (hq : x ≠ q) (hk : ∀ b, b ≠ x → w'.heap[b]? = w.heap[b]?) : Dig w' B q bs := by
 obtain ⟨h1, v, h2, h3⟩ := h
 refine ⟨h1, v, (hk q (Ne.symm hq)).trans h2, own_of_block h3 (fun g hg => hk g ?_)⟩
 rintro rfl
 rcases h3.2 with ⟨rfl, _⟩ | ⟨g', cap, cur, rfl, hb, hh, rest⟩
 · simp [Value.ownBlock] at hg
 · (
 have : g' = g := by simpa [Value.ownBlock] using hg
 subst this
 rw [hh] at hx
 simp at hx
 exact he hx.2.1.symm)
theorem kept_new {q x : Nat} {w w1 w2 : World} (h : Kept q w w1) (g2 : ∀ b, b ≠ x → w2.heap[b]? = w1.heap[b]?) (hx : w.heap.size ≤ x) (g4 : w2.heap.size = w1.heap.size) : Kept q w w2 :=
 ⟨by rw [g4]; exact h.1, fun b hb hq h5 => (g2 b (by omega)).trans (h.2 b hb hq h5)⟩
set_option maxHeartbeats 400000 in
theorem c169 (B q : Nat) (bs : List UInt8) (s : ByteArray) (w : World) (h : Dig w B q bs) (hB : B ≤ w.heap.size) (hl : bs.length + s.size ≤ 1000000) :
 Calls Tryz.prog 169 #[.agg #[.pointer (some ⟨q, 0, none⟩)], .string s] w fun e w' => e = .returned (.agg #[.pointer (some ⟨q, 0, none⟩)]) ∧ Dig w' B q (bs ++ s.data.toList) ∧ Below B w w' ∧ Kept q w w' := by
 have hqs : q < w.heap.size := by obtain ⟨_, v, h2, _⟩ := h; exact (Array.getElem?_eq_some_iff.1 h2).1
 go_enter Tryz.func169, Tryz.ntmps169
 go_upto_region 1 with fail
 obtain ⟨W0, hW0⟩ : ∃ W0, W0 = (w.alloc (.cells #[.pointer (some ⟨q, 0, none⟩)] 203)).alloc (.cells #[.pointer none] 203) := ⟨_, rfl⟩
 rw [← hW0]
 have hz0 : W0.heap[w.heap.size]? = some (.cells #[.pointer (some ⟨q, 0, none⟩)] 203 (0, 0)) := by
  rw [hW0, Below.heap_alloc _ _ _ (by simp)]; exact heap_alloc_new w _
 have hz1 : W0.heap[w.heap.size + 1]? = some (.cells #[.pointer none] 203 (0, 0)) := by
  rw [hW0]
  have := heap_alloc_new (w.alloc (.cells #[.pointer (some ⟨q, 0, none⟩)] 203)) (.cells #[.pointer none] 203)
  simpa using this
 have hb : Below w.heap.size w W0 := by rw [hW0]; exact ((Below.refl _ _).alloc (Nat.le_refl _) _).alloc (by simp) _
 have hsz : W0.heap.size = w.heap.size + 2 := by rw [hW0]; simp
 have hc0 := blk_cell hz0 0 _ rfl
 have C := Lib.hid (c175 B q bs s W0 (dig_keep h (fun b _ hb2 => hb.block b hb2)) (by omega) hl)
 have HSZ := Lib.hid hsz
 clear hW0 hsz
 go_wp2_with (first
  | (go_at_call 175; refine C.out.mono ?_; rintro e w1 ⟨rfl, hd, hb1, hk1⟩; have hy0 := hk1.blk hz0 (by omega) (by decide); have hy1 := hk1.blk hz1 (by omega) (by decide); have hc1 := blk_cell hy0 0 _ rfl)
  | ((with_reducible apply arm_store_whole 1 info203 hy1); rfl; rfl; rfl; rfl; rfl; intro w2 g1 g2 g3 g4))
 refine bodyPost_ret (results_cell_row rfl _ _ _ _ _ _ _ rfl g1 Tryz.underlying203 rfl info203) rfl ⟨rfl, dig_other hd hy1 (by decide) (by omega) g2, g3 _ _ (by omega) ((hb.mono hB).trans hb1), kept_new (Kept.trans (Kept.below hb) hk1) g2 (by omega) g4⟩
end
section
theorem dig_other2 {w w' : World} {B q x : Nat} {bs : List UInt8} (h : Dig w B q bs) {cs : Array Value} {e : TypeId} {fr : Nat × Nat} (hx : w.heap[x]? = some (.cells cs e fr)) (he : e ≠ 5) (hq : x ≠ q) (hk : ∀ b, b ≠ x → b < w.heap.size → w'.heap[b]? = w.heap[b]?) : Dig w' B q bs := by
 obtain ⟨h1, v, h2, h3⟩ := h
 refine ⟨h1, v, (hk q (Ne.symm hq) (Array.getElem?_eq_some_iff.1 h2).1).trans h2, own_of_block h3 (fun g hg => ?_)⟩
 rcases h3.2 with ⟨rfl, _⟩ | ⟨g', cap, cur, rfl, hb, hh, rest⟩
 · simp [Value.ownBlock] at hg
 · (
 have : g' = g := by simpa [Value.ownBlock] using hg
 subst this
 refine hk g' ?_ (Array.getElem?_eq_some_iff.1 hh).1
 rintro rfl
 rw [hh] at hx
 simp at hx
 exact he hx.2.1.symm)
set_option maxHeartbeats 400000 in
theorem c177 (B q : Nat) (bs : List UInt8) (v : Nat) (hv : v < 18446744073709551616) (w : World) (h : Dig w B q bs) (hB : B ≤ w.heap.size) (hl : bs.length + 8 ≤ 1000000) :
 Calls Tryz.prog 177 #[.agg #[.pointer (some ⟨q, 0, none⟩)], .int .u64 v] w fun e w' => e = .returned (.agg #[.pointer (some ⟨q, 0, none⟩)]) ∧ Dig w' B q (bs ++ Lib.leBytes 8 v) ∧ Below B w w' ∧ Kept q w w' := by
 have hqs : q < w.heap.size := by obtain ⟨_, v, h2, _⟩ := h; exact (Array.getElem?_eq_some_iff.1 h2).1
 go_enter Tryz.func177, Tryz.ntmps177
 go_upto_region 2 with fail
 obtain ⟨W0, hW0⟩ : ∃ W0, W0 = ((w.alloc (.cells #[.pointer (some ⟨q, 0, none⟩)] 203)).alloc (.cells #[.pointer none] 203)).alloc (.cells #[.int .u8 0, .int .u8 0, .int .u8 0, .int .u8 0, .int .u8 0, .int .u8 0, .int .u8 0, .int .u8 0] 328) := ⟨_, rfl⟩
 rw [← hW0]
 have hz0 : W0.heap[w.heap.size]? = some (.cells #[.pointer (some ⟨q, 0, none⟩)] 203 (0, 0)) := by
  rw [hW0, Below.heap_alloc _ _ _ (by simp; omega), Below.heap_alloc _ _ _ (by simp)]; exact heap_alloc_new w _
 have hz1 : W0.heap[w.heap.size + 1]? = some (.cells #[.pointer none] 203 (0, 0)) := by
  rw [hW0, Below.heap_alloc _ _ _ (by simp)]
  have := heap_alloc_new (w.alloc (.cells #[.pointer (some ⟨q, 0, none⟩)] 203)) (.cells #[.pointer none] 203)
  simpa using this
 have hz2 : W0.heap[w.heap.size + 1 + 1]? = some (.cells #[.int .u8 0, .int .u8 0, .int .u8 0, .int .u8 0, .int .u8 0, .int .u8 0, .int .u8 0, .int .u8 0] 328 (0, 0)) := by
  rw [hW0]
  have := heap_alloc_new ((w.alloc (.cells #[.pointer (some ⟨q, 0, none⟩)] 203)).alloc (.cells #[.pointer none] 203)) (.cells #[.int .u8 0, .int .u8 0, .int .u8 0, .int .u8 0, .int .u8 0, .int .u8 0, .int .u8 0, .int .u8 0] 328)
  simpa using this
 have hb : Below w.heap.size w W0 := by rw [hW0]; exact (((Below.refl _ _).alloc (Nat.le_refl _) _).alloc (by simp) _).alloc (by simp; omega) _
 have hsz : W0.heap.size = w.heap.size + 3 := by rw [hW0]; simp
 have HSZ := Lib.hid hsz
 have HB0 := Lib.hid hb
 have HD0 := Lib.hid (dig_keep h (fun b _ hb2 => hb.block b hb2))
 clear hW0 hsz hb h
 refine wp_region_held_drew (S := fun _ => True) (by kernel_rfl) trivial (fun hHeld => ?_)
 refine wpAnyH_took 0 8 (v := .agg #[]) (a' := ?_) rfl rfl (by kernel_rfl) (by kernel_rfl) (by kernel_rfl) (fun _ _ _ h => h) (by kernel_rfl) (by first | trivial | assumption) ?_ ?_ rfl ?_
 rotate_left 1
 · intro w hSw; go_simp
 · simp only [sI, s0, sS]; exact rfl
 refine wpAnyH_took 1 9 (v := .slice (some ⟨w.heap.size + 1 + 1, 0, none⟩) 8 8) (a' := ?_) rfl rfl (by kernel_rfl) (by kernel_rfl) (by kernel_rfl) (fun _ _ _ h => h) (by kernel_rfl) (by first | trivial | assumption) ?_ ?_ rfl ?_
 rotate_left 1
 · intro w hSw; go_simp
 · simp only [sI, s0, sS]; exact rfl
 refine wpAnyH_took 2 10 (v := .int .u64 v) (a' := ?_) rfl rfl (by kernel_rfl) (by kernel_rfl) (by kernel_rfl) (fun _ _ _ h => h) (by kernel_rfl) (by first | trivial | assumption) ?_ ?_ rfl ?_
 rotate_left 1
 · intro w hSw; go_simp
 · simp only [sI, s0, sS]; exact rfl
 refine wpAnyH_ready (rs := [3]) (by kernel_rfl) (by simp) ?_
 refine ar1 rfl (fun K hK => ?_)
 go_simp
 have hzd : W0.drew.heap[w.heap.size + 1 + 1]? = some (.cells #[.int .u8 0, .int .u8 0, .int .u8 0, .int .u8 0, .int .u8 0, .int .u8 0, .int .u8 0, .int .u8 0] 328 (0, 0)) := hz2
 refine (Tryz.binary_LE_PutUint64 (w.heap.size + 1 + 1) 0 8 8 v hv _ _ _ _ _ _ _ _ W0.drew (by omega) (blk_cell hzd 0 _ rfl) (blk_cell hzd 1 _ rfl) (blk_cell hzd 2 _ rfl) (blk_cell hzd 3 _ rfl) (blk_cell hzd 4 _ rfl) (blk_cell hzd 5 _ rfl) (blk_cell hzd 6 _ rfl) (blk_cell hzd 7 _ rfl) (frozen_blk hzd 0) (frozen_blk hzd 1) (frozen_blk hzd 2) (frozen_blk hzd 3) (frozen_blk hzd 4) (frozen_blk hzd 5) (frozen_blk hzd 6) (frozen_blk hzd 7)).mono ?_
 rintro e w1 ⟨rfl, hw1⟩
 try dsimp only
 have hlb : (Lib.byteCells (Lib.leBytes 8 v)).length = 8 := by simp [Lib.byteCells, Lib.leBytes]
 have hsd : W0.drew.heap.size = w.heap.size + 3 := HSZ.out
 have hs0 : W0.heap.size = w.heap.size + 3 := HSZ.out
 have e2 : w1.heap[w.heap.size + 1 + 1]? = some (.cells (Lib.byteCells (Lib.leBytes 8 v)).toArray 328 (0, 0)) := by
  rw [hw1]
  refine setCells_whole (zs := #[.int .u8 0, .int .u8 0, .int .u8 0, .int .u8 0, .int .u8 0, .int .u8 0, .int .u8 0, .int .u8 0]) ?_ _ hlb
  rw [Below.heap_alloc _ _ _ (by omega)]; exact hzd
 have eo : ∀ b, b ≠ w.heap.size + 1 + 1 → b < w.heap.size + 3 → w1.heap[b]? = W0.heap[b]? := by
  intro b hb1 hb2
  rw [hw1]
  refine (heap_keep_setCells (b' := b) _ 0 _ rfl hb1 (by simp; omega)).trans ?_
  rw [Below.heap_alloc _ _ _ (by omega)]
  rfl
 have es : w1.heap.size = w.heap.size + 4 := by rw [hw1, size_setCells']; simp; omega
 have eb : Below w.heap.size W0 w1 := by
  rw [hw1]
  exact below_setCells (by omega) _ _ _ ((below_drew (Below.refl _ _)).alloc (by omega) _)
 clear hw1
 refine hK.out _ _ trivial (fun _ => ?_)
 clear hK K
 refine wpAnyH_done (by kernel_rfl) ?_ _
 have e0 : w1.heap[w.heap.size]? = some (.cells #[.pointer (some ⟨q, 0, none⟩)] 203 (0, 0)) := (eo _ (by omega) (by omega)).trans hz0
 have e1 : w1.heap[w.heap.size + 1]? = some (.cells #[.pointer none] 203 (0, 0)) := (eo _ (by omega) (by omega)).trans hz1
 have hd1 : Dig w1 B q bs := dig_other2 HD0.out hz2 (by decide) (by omega) (fun b hx hb2 => eo b hx (by omega))
 have ec0 := blk_cell e0 0 _ rfl
 have C := Lib.hid (c200 B q bs ⟨w.heap.size + 1 + 1, 0, none⟩ 8 8 (Lib.leBytes 8 v) w1.drew (dig_keep hd1 (fun _ _ _ => rfl)) (by show B ≤ w1.heap.size; omega) (by simp [Lib.leBytes]) (fun j u hj => by
  rw [Addr.add_mid]
  refine blk_cell (w := w1.drew) (show w1.drew.heap[w.heap.size + 1 + 1]? = _ from e2) _ _ ?_
  simpa [Lib.byteCells, byteV] using hj) hl)
 go_upto_region 3 with fail
 refine wp_region_held_drew (S := fun w' => w'.cell? ⟨w.heap.size, 0, none⟩ = some (.pointer (some ⟨q, 0, none⟩))) (by kernel_rfl) ec0 (fun hHeld => ?_)
 refine wpAnyH_took 0 13 (v := .pointer (some ⟨w.heap.size, 0, none⟩)) (a' := ?_) rfl rfl (by kernel_rfl) (by kernel_rfl) (by kernel_rfl) (fun _ _ _ h => h) (by kernel_rfl) (by first | trivial | assumption) ?_ ?_ rfl ?_
 rotate_left 1
 · intro w hSw; (try dsimp only at hSw); go_simp
 · simp only [sI, s0, sS]; exact rfl
 refine wpAnyH_took 1 14 (v := .pointer (some ⟨q, 0, none⟩)) (a' := ?_) rfl rfl (by kernel_rfl) (by kernel_rfl) (by kernel_rfl) (fun _ _ _ h => h) (by kernel_rfl) (by first | trivial | assumption) ?_ ?_ rfl ?_
 rotate_left 1
 · intro w hSw; (try dsimp only at hSw); go_simp
 · simp only [sI, s0, sS]; exact rfl
 refine wpAnyH_took 2 15 (v := .slice (some ⟨w.heap.size + 1 + 1, 0, none⟩) 8 8) (a' := ?_) rfl rfl (by kernel_rfl) (by kernel_rfl) (by kernel_rfl) (fun _ _ _ h => h) (by kernel_rfl) (by first | trivial | assumption) ?_ ?_ rfl ?_
 rotate_left 1
 · intro w hSw; (try dsimp only at hSw); go_simp
 · simp only [sI, s0, sS]; exact rfl
 refine wpAnyH_ready (rs := [3]) (by kernel_rfl) (by simp) ?_
 refine ar1 rfl (fun K hK => ?_)
 go_simp
 refine C.out.mono ?_
 rintro e w2 ⟨rfl, hd2, hb2, hk2⟩
 try dsimp only
 have y0 := hk2.blk (w := w1.drew) e0 (by omega) (by decide)
 have y1 := hk2.blk (w := w1.drew) e1 (by omega) (by decide)
 refine hK.out _ _ (blk_cell y0 0 _ rfl) (fun hHeld => ?_)
 clear hK K
 refine wpAnyH_took 4 12 (v := .tuple #[.int .i64 8, .nilIface]) (a' := ?_) rfl rfl (by kernel_rfl) (by kernel_rfl) (by kernel_rfl) (fun _ _ _ h => h) (by kernel_rfl) (by first | trivial | assumption) ?_ ?_ rfl ?_
 rotate_left 1
 · intro w hSw; (try dsimp only at hSw); go_simp
 · simp only [sI, s0, sS]; exact rfl
 refine wpAnyH_took 5 17 (v := .int .i64 8) (a' := ?_) rfl rfl (by kernel_rfl) (by kernel_rfl) (by kernel_rfl) (fun _ _ _ h => h) (by kernel_rfl) (by first | trivial | assumption) ?_ ?_ rfl ?_
 rotate_left 1
 · intro w hSw; (try dsimp only at hSw); go_simp
 · simp only [sI, s0, sS]; exact rfl
 refine wpAnyH_took 6 18 (v := .nilIface) (a' := ?_) rfl rfl (by kernel_rfl) (by kernel_rfl) (by kernel_rfl) (fun _ _ _ h => h) (by kernel_rfl) (by first | trivial | assumption) ?_ ?_ rfl ?_
 rotate_left 1
 · intro w hSw; (try dsimp only at hSw); go_simp
 · simp only [sI, s0, sS]; exact rfl
 refine wpAnyH_took 7 6 (v := .int .i64 8) (a' := ?_) rfl rfl (by kernel_rfl) (by kernel_rfl) (by kernel_rfl) (fun _ _ _ h => h) (by kernel_rfl) (by first | trivial | assumption) ?_ ?_ rfl ?_
 rotate_left 1
 · intro w hSw; (try dsimp only at hSw); go_simp
 · simp only [sI, s0, sS]; exact rfl
 refine wpAnyH_took 8 7 (v := .nilIface) (a' := ?_) rfl rfl (by kernel_rfl) (by kernel_rfl) (by kernel_rfl) (fun _ _ _ h => h) (by kernel_rfl) (by first | trivial | assumption) ?_ ?_ rfl ?_
 rotate_left 1
 · intro w hSw; (try dsimp only at hSw); go_simp
 · simp only [sI, s0, sS]; exact rfl
 refine wpAnyH_done (by kernel_rfl) ?_ _
 have yc := blk_cell y0 0 _ rfl
 go_wp2_with ((with_reducible apply arm_store_whole 1 info203 y1); rfl; rfl; rfl; rfl; rfl; intro w3 g1 g2 g3 g4)
 have hk01 : Kept q w w1.drew := Kept.below (w1 := w1) (HB0.out.trans eb)
 have hb01 : Below B w w1.drew := below_drew ((HB0.out.trans eb).mono hB)
 have hsz2 := hk2.1
 refine bodyPost_ret (results_cell_row rfl _ _ _ _ _ _ _ rfl g1 Tryz.underlying203 rfl info203) rfl ⟨rfl, dig_other hd2 y1 (by decide) (by omega) g2, g3 _ _ (by omega) (hb01.trans hb2), kept_new (Kept.trans hk01 hk2) g2 (by omega) g4⟩
end
end Go.Proofs.YtlpddogcnpokfaaGreatDoor
