/- Contracts of functions of the program, for the comparison of aggregations (part KA1). -/
import Derived.Test.YtlpddogcnpokfaaGreatDoorProg
import Derived.WalkKit
import Derived.WalkSpells
import Derived.WalkLawsBesides
import Derived.KernelRfl
import Derived.Deep.MidRow
import Derived.Lib.Hide
import Derived.Deep.DeepCutAuto
import Derived.Maps.AppendAt
import Derived.Deep.QuietTactic
import Derived.BigQuiet
import Derived.Deep.LoopGhost
set_option linter.all false
namespace Go.Proofs.YtlpddogcnpokfaaGreatDoor
open Go.RowKit
theorem sI {α : Type} {l : List α} {i : Nat} {a : α} : l.toArray.setIfInBounds i a = (l.set i a).toArray := List.setIfInBounds_toArray ..
theorem s0 {α : Type} {a b : α} {l : List α} : (b :: l).set 0 a = a :: l := List.set_cons_zero ..
theorem sS {α : Type} {a b : α} {l : List α} {n : Nat} : (b :: l).set (n + 1) a = b :: l.set n a := List.set_cons_succ ..
theorem ba {w W : World} {o : Obj} (h : W = w.alloc o) : Below w.heap.size w W := by rw [h]; exact (Below.refl _ _).alloc (Nat.le_refl _) _
section
/-! ### Reading memory -/
/-- A slice value '.slice A n c' reads in w, below block B, as rows of 'size' cells each. -/
structure Rd (w : World) (B size : Nat) (A : Option Addr) (n c : Nat) (rows : List (List Value)) : Prop where
 len : rows.length = n
 cap : n ≤ c
 top : n ≤ 140737488351232
 ctop : c ≤ 9223372036854775807
 row : ∀ r ∈ rows, r.length = size
 mem : 0 < n → ∃ b o, A = some ⟨b, o, none⟩ ∧ b < B ∧ w.rangeAt b o rows.flatten
theorem flatten_at {α : Type} (size : Nat) : ∀ (rows : List (List α)) (i j : Nat) (r : List α), (∀ r ∈ rows, r.length = size) → rows[i]? = some r → j < size → rows.flatten[i * size + j]? = r[j]?
 | [], i, j, r, _, h, _ => by simp at h
 | q :: rows, 0, j, r, hr, h, hj => by
  have hq : q.length = size := hr q (by simp)
  simp at h
  subst h
  simp [List.getElem?_append_left (show j < q.length by omega)]
 | q :: rows, i + 1, j, r, hr, h, hj => by
  have hq : q.length = size := hr q (by simp)
  have ih := flatten_at size rows i j r (fun r h => hr r (by simp [h])) (by simpa using h) hj
  rw [List.flatten_cons, List.getElem?_append_right (by rw [hq, Nat.add_mul]; omega), ← ih]
  congr 1
  rw [hq, Nat.add_mul]
  omega
theorem rangeAt_row {w : World} {b o size : Nat} {rows : List (List Value)} (h : w.rangeAt b o rows.flatten) (hr : ∀ r ∈ rows, r.length = size) {i : Nat} {r : List Value} (hi : rows[i]? = some r) :
 w.rangeAt b (o + i * size) r := by
 intro j v hv
 have hl : r.length = size := hr r (List.mem_of_getElem? hi)
 have hj : j < size := by
  have := (List.getElem?_eq_some_iff.1 hv).1
  omega
 rw [Nat.add_assoc]
 exact h (i * size + j) v (by rw [flatten_at size rows i j r hr hi hj]; exact hv)
theorem Rd.at_ {w : World} {B size : Nat} {A : Option Addr} {n c : Nat} {rows : List (List Value)} (h : Rd w B size A n c rows) {i : Nat} (hi : i < n) :
 ∃ b o r, A = some ⟨b, o, none⟩ ∧ b < B ∧ rows[i]? = some r ∧ r.length = size ∧ w.rangeAt b (o + i * size) r := by
 obtain ⟨b, o, ha, hb, hc⟩ := h.mem (by omega)
 have hl : i < rows.length := by rw [h.len]; exact hi
 have hr : rows[i]? = some rows[i] := List.getElem?_eq_getElem hl
 exact ⟨b, o, rows[i], ha, hb, hr, h.row _ (List.getElem_mem hl), rangeAt_row hc h.row hr⟩
theorem Rd.keep {w w' : World} {B B' size : Nat} {A : Option Addr} {n c : Nat} {rows : List (List Value)} (h : Rd w B size A n c rows) (hk : ∀ b o, b < B → w'.cell? ⟨b, o, none⟩ = w.cell? ⟨b, o, none⟩) (hB : B ≤ B') : Rd w' B' size A n c rows :=
 ⟨h.len, h.cap, h.top, h.ctop, h.row, fun hn => by
  obtain ⟨b, o, ha, hb, hc⟩ := h.mem hn
  exact ⟨b, o, ha, by omega, fun j v hv => (hk b _ hb).trans (hc j v hv)⟩⟩
theorem Rd.below {w w' : World} {B size : Nat} {A : Option Addr} {n c : Nat} {rows : List (List Value)} (h : Rd w B size A n c rows) (hb : Below B w w') : Rd w' B size A n c rows :=
 h.keep (fun b o hlt => hb.cell (p := ⟨b, o, none⟩) hlt) (Nat.le_refl _)
theorem Rd.more {w : World} {B B' size : Nat} {A : Option Addr} {n c : Nat} {rows : List (List Value)} (h : Rd w B size A n c rows) (hB : B ≤ B') : Rd w B' size A n c rows := h.keep (fun _ _ _ => rfl) hB
theorem bcell {W w1 : World} {B : Nat} (hb : Below B W w1) : (∀ b o, b < B → w1.cell? ⟨b, o, none⟩ = W.cell? ⟨b, o, none⟩) ∧ (∀ b o, b < B → w1.frozen? ⟨b, o, none⟩ = W.frozen? ⟨b, o, none⟩) :=
 ⟨fun b o h => hb.cell (p := ⟨b, o, none⟩) h, fun b o h => hb.frozen (p := ⟨b, o, none⟩) h⟩
theorem below_then {B : Nat} {w w1 w2 : World} (h : Below B w w1) (hB : B ≤ w1.heap.size) (k : Below w1.heap.size w1 w2) : Below B w w2 :=
 h.trans ⟨k.os, k.tape, k.output, k.size, fun i hi => k.block i (Nat.lt_of_lt_of_le hi hB)⟩
theorem below_drew {B : Nat} {w W : World} (h : Below B w W) : Below B w W.drew := ⟨h.os, h.tape, h.output, h.size, h.block⟩
theorem below_drewN {B : Nat} {w W : World} (h : Below B w W) (n : Nat) : Below B w (W.drewN n) := ⟨h.os, h.tape, h.output, h.size, h.block⟩
/-! ### The data -/
/-- An attribute: its key, and its value's four parts (a text: ty 4, num 0). -/
structure KV where
 key : ByteArray
 ty : Int
 num : Int
 str : ByteArray
 deriving Inhabited
def enc2 (x : KV) : List Value := [.string x.key, .string x.str]
def enc5 (x : KV) : List Value := [.string x.key, .int .i64 x.ty, .int .u64 x.num, .string x.str, .nilIface]
def encU (x : Int) : List Value := [.int .u64 x]
def KV.Ok (x : KV) : Prop := x.key.size ≤ 140737488351232 ∧ x.str.size ≤ 140737488351232
/-- A slice value's parts. -/
structure Sl where
 A : Option Addr
 n : Nat
 c : Nat
structure Dot where
 attrs : List KV
 value : Int
 count : Int
 sum : Int
 hasMin : Bool
 hasMax : Bool
 min : Int
 max : Int
 bounds : List Int
 buckets : List Int
 scale : Int
 zero : Int
 posOff : Int
 pos : List Int
 negOff : Int
 neg : List Int
 start : Int
 time : Int
def U64 (x : Int) : Prop := 0 ≤ x ∧ x ≤ 18446744073709551615
structure Dot.Ok (d : Dot) : Prop where
 attrs : ∀ x ∈ d.attrs, x.Ok ∧ x.ty = 4 ∧ x.num = 0
 value : U64 d.value
 sum : U64 d.sum
 min : U64 d.min
 max : U64 d.max
 bounds : ∀ x ∈ d.bounds, U64 x
structure Sl5 where
 a : Sl
 b : Sl
 k : Sl
 p : Sl
 n : Sl
def ptCells (d : Dot) (s : Sl5) : List Value :=
 [.slice s.a.A s.a.n s.a.c, .int .u64 d.value, .int .u64 d.count, .int .u64 d.sum, .bool d.hasMin, .bool d.hasMax, .int .u64 d.min, .int .u64 d.max, .slice s.b.A s.b.n s.b.c, .slice s.k.A s.k.n s.k.c, .int .i32 d.scale, .int .u64 d.zero, .int .i32 d.posOff, .slice s.p.A s.p.n s.p.c, .int .i32 d.negOff, .slice s.n.A s.n.n s.n.c]
def dotCells (d : Dot) (s : Sl5) : List Value :=
 [.slice s.a.A s.a.n s.a.c, .int .u64 d.value, .int .u64 d.count, .int .u64 d.sum, .bool d.hasMin, .bool d.hasMax, .int .u64 d.min, .int .u64 d.max, .slice s.b.A s.b.n s.b.c, .slice s.k.A s.k.n s.k.c, .int .i32 d.scale, .int .u64 d.zero, .int .i32 d.posOff, .slice s.p.A s.p.n s.p.c, .int .i32 d.negOff, .slice s.n.A s.n.n s.n.c, .int .i64 d.start, .int .i64 d.time]
structure DotR (w : World) (B : Nat) (d : Dot) (s : Sl5) : Prop where
 a : Rd w B 2 s.a.A s.a.n s.a.c (d.attrs.map enc2)
 b : Rd w B 1 s.b.A s.b.n s.b.c (d.bounds.map encU)
 k : Rd w B 1 s.k.A s.k.n s.k.c (d.buckets.map encU)
 p : Rd w B 1 s.p.A s.p.n s.p.c (d.pos.map encU)
 n : Rd w B 1 s.n.A s.n.n s.n.c (d.neg.map encU)
 ok : d.Ok
theorem DotR.below {w w' : World} {B : Nat} {d : Dot} {s : Sl5} (h : DotR w B d s) (hb : Below B w w') : DotR w' B d s :=
 ⟨h.a.below hb, h.b.below hb, h.k.below hb, h.p.below hb, h.n.below hb, h.ok⟩
theorem DotR.more {w : World} {B B' : Nat} {d : Dot} {s : Sl5} (h : DotR w B d s) (hB : B ≤ B') : DotR w B' d s :=
 ⟨h.a.more hB, h.b.more hB, h.k.more hB, h.p.more hB, h.n.more hB, h.ok⟩
/-- A slice of dots: the dots, each with its slices. -/
structure DotsR (w : World) (B : Nat) (A : Option Addr) (n c : Nat) (l : List (Dot × Sl5)) : Prop where
 rd : Rd w B 18 A n c (l.map fun x => dotCells x.1 x.2)
 all : ∀ x ∈ l, DotR w B x.1 x.2
theorem DotsR.below {w w' : World} {B : Nat} {A : Option Addr} {n c : Nat} {l : List (Dot × Sl5)} (h : DotsR w B A n c l) (hb : Below B w w') : DotsR w' B A n c l :=
 ⟨h.rd.below hb, fun x hx => (h.all x hx).below hb⟩
theorem DotsR.more {w : World} {B B' : Nat} {A : Option Addr} {n c : Nat} {l : List (Dot × Sl5)} (h : DotsR w B A n c l) (hB : B ≤ B') : DotsR w B' A n c l :=
 ⟨h.rd.more hB, fun x hx => (h.all x hx).more hB⟩
/-- An aggregation. -/
structure Data where
 kind : Int
 float : Bool
 delta : Bool
 mono : Bool
 dots : List (Dot × Sl5)
theorem call30 (a : Int) (w : World) : (callFunc 30 #[.int .u64 a]).run Tryz.prog w = .ok (.value (.float .f64 a.toNat)) w := by kernel_rfl
theorem setCells_new (w : World) (e : TypeId) : ∀ (vs pre post : List Value), vs.length ≤ post.length → (w.alloc (.cells (pre ++ post).toArray e)).setCells w.heap.size pre.length vs = w.alloc (.cells (pre ++ (vs ++ post.drop vs.length)).toArray e) := by
 intro vs
 induction vs with
 | nil => intro pre post _; simp [World.setCells]
 | cons v vs ih =>
  intro pre post hl
  cases post with
  | nil => simp at hl
  | cons p post =>
   rw [World.setCells, World.setCell_alloc_at _ _ _ _ _ rfl]
   have e1 : (pre ++ p :: post).toArray.setIfInBounds pre.length v = ((pre ++ [v]) ++ post).toArray := by
    simp
   rw [e1]
   have e2 : pre.length + 1 = (pre ++ [v]).length := by simp
   rw [e2, ih (pre ++ [v]) post (by simpa using hl)]
   simp
theorem there_new (w : World) (zs : Array Value) (e : TypeId) : (w.alloc (.cells zs e)).there w.heap.size 0 zs.size := by
 intro j hj
 rw [World.cell?_alloc_at _ _ _ _ rfl, World.frozen?_alloc_at _ _ _ _ rfl]
 simp [hj]
section
variable {P : Program} {ops : Array Oper} {rest : List Oper} {a : Act} {Q : Exit → Act → World → Prop} {d : Option Tmp} {tt : TypeId} {ps : String} {af : Array Edge}
/-- A struct stored into the block that was laid for it. -/
theorem arm_store_new {ty : TypeId} {x y : Operand} {w : World} {zs : Array Value} {e : TypeId} {cs : Array Value} (n : Nat)
 (hi : (P.info? ty).map (·.size) = some n) {b : Nat} (hx : a.eval x = .pointer (some ⟨b, 0, none⟩)) (hbk : b = w.heap.size) (hy : a.eval y = .agg cs) (hz : zs.size = n) (hcs : cs.size = n) (h1 : cs.toList.all (·.oneCell') = true)
 (h : wpList P ops Q rest (a.put d undef) (w.alloc (.cells cs e))) : wpList P ops Q (⟨d, .store ty x y, tt, ps, af, none⟩ :: rest) a (w.alloc (.cells zs e)) := by
 subst hbk
 have hs : zs.size = cs.size := hz.trans hcs.symm
 refine wpList_store_mid rfl ty x y rfl w.heap.size 0 cs hx hy (by rw [← hs]; exact there_new w zs e) (by rw [hcs]; exact hi) (by rw [← Array.all_toList]; exact h1) ?_
 have := setCells_new w e cs.toList [] zs.toList (by simp [hs])
 simp only [List.nil_append, List.length_nil] at this
 rw [this]
 have hd : zs.toList.drop cs.toList.length = [] := List.drop_eq_nil_of_le (by simp [hs])
 rw [hd]
 simpa using h
/-- A struct loaded out of a row. -/
theorem arm_load {ty : TypeId} {x : Operand} {w : World} {b o : Nat} {cs : List Value} {de : TypeDesc} (hc : w.rangeAt b o cs) (hx : a.eval x = .pointer (some ⟨b, o, none⟩))
 (n : Nat) (hi : (P.info? ty).map (·.size) = some n) (hu : P.underlying ty = some de) (hd : de.isRow = true) (hn : cs.length = n)
 (h : wpList P ops Q rest (a.put d (.agg cs.toArray)) w) : wpList P ops Q (⟨d, .load ty x, tt, ps, af, none⟩ :: rest) a w :=
 wpList_load_mid rfl ty x rfl b o hx cs de hc hu hd (by rw [hn]; exact hi) h
/-- A struct loaded whole, or in part, out of a block that is known. -/
theorem arm_load_blk {ty : TypeId} {x : Operand} {w : World} {b off : Nat} {e : TypeId} {fr : Nat × Nat} {pre mid post : List Value} {de : TypeDesc} (n : Nat) (hi : (P.info? ty).map (·.size) = some n) (hu : P.underlying ty = some de)
 (hb : w.heap[b]? = some (.cells (pre ++ (mid ++ post)).toArray e fr)) (hd : de.isRow = true) (hx : a.eval x = .pointer (some ⟨b, off, none⟩)) (ho : pre.length = off) (hn : mid.length = n)
 (h : wpList P ops Q rest (a.put d (.agg mid.toArray)) w) : wpList P ops Q (⟨d, .load ty x, tt, ps, af, none⟩ :: rest) a w := by
 subst ho
 refine arm_load (cs := mid) (b := b) (o := pre.length) ?_ hx n hi hu hd hn h
 intro j v hv
 rw [cell_of_row w b _ _ _ _ hb]
 have hj := (List.getElem?_eq_some_iff.1 hv).1
 simp only [List.getElem?_toArray]
 rw [List.getElem?_append_right (by omega), Nat.add_sub_cancel_left, List.getElem?_append_left hj]
 exact hv
theorem arm_load_all {ty : TypeId} {x : Operand} {w : World} {b : Nat} {e : TypeId} {fr : Nat × Nat} {cs : Array Value} {de : TypeDesc} (n : Nat) (hi : (P.info? ty).map (·.size) = some n) (hu : P.underlying ty = some de)
 (hb : w.heap[b]? = some (.cells cs e fr)) (hd : de.isRow = true) (hx : a.eval x = .pointer (some ⟨b, 0, none⟩)) (hn : cs.size = n)
 (h : wpList P ops Q rest (a.put d (.agg cs)) w) : wpList P ops Q (⟨d, .load ty x, tt, ps, af, none⟩ :: rest) a w := by
 refine arm_load_blk (pre := []) (mid := cs.toList) (post := []) n hi hu (b := b) (off := 0) (e := e) (fr := fr) (by simpa using hb) hd hx rfl (by simpa using hn) (by simpa using h)
theorem arm_load_top {ty : TypeId} {x : Operand} {w : World} {e : TypeId} {cs : Array Value} {de : TypeDesc} (n : Nat) (hi : (P.info? ty).map (·.size) = some n) (hu : P.underlying ty = some de)
 (hd : de.isRow = true) {b : Nat} (hx : a.eval x = .pointer (some ⟨b, 0, none⟩)) (hbk : b = w.heap.size) (hn : cs.size = n)
 (h : wpList P ops Q rest (a.put d (.agg cs)) (w.alloc (.cells cs e))) : wpList P ops Q (⟨d, .load ty x, tt, ps, af, none⟩ :: rest) a (w.alloc (.cells cs e)) := by
 subst hbk
 exact arm_load_all n hi hu (heap_alloc_new w _) hd hx hn h
theorem arm_load_topf {ty : TypeId} {x : Operand} {w : World} {e : TypeId} {cs : Array Value} {de : TypeDesc} (pre mid post : List Value) (off n : Nat) (hi : (P.info? ty).map (·.size) = some n) (hu : P.underlying ty = some de)
 (hd : de.isRow = true) {b : Nat} (hx : a.eval x = .pointer (some ⟨b, off, none⟩)) (hbk : b = w.heap.size) (hcs : cs = (pre ++ (mid ++ post)).toArray) (ho : pre.length = off) (hn : mid.length = n)
 (h : wpList P ops Q rest (a.put d (.agg mid.toArray)) (w.alloc (.cells cs e))) : wpList P ops Q (⟨d, .load ty x, tt, ps, af, none⟩ :: rest) a (w.alloc (.cells cs e)) := by
 subst hcs
 subst hbk
 exact arm_load_blk n hi hu (heap_alloc_new w _) hd hx ho hn h
end
theorem info42 : (Tryz.prog.info? 42).map (·.size) = some 18 := by kernel_rfl
theorem info40 : (Tryz.prog.info? 40).map (·.size) = some 16 := by kernel_rfl
theorem blk_cell {w : World} {b : Nat} {cs : Array Value} {e : TypeId} {fr : Nat × Nat} (h : w.heap[b]? = some (.cells cs e fr)) (i : Nat) (v : Value) (hv : cs[i]? = some v) : w.cell? ⟨b, i, none⟩ = some v := by rw [cell_of_row w b i cs e fr h]; exact hv
theorem Rd.drew {w : World} {B size : Nat} {A : Option Addr} {n c : Nat} {rows : List (List Value)} (h : Rd w B size A n c rows) : Rd w.drew B size A n c rows := h.keep (fun _ _ _ => rfl) (Nat.le_refl _)
theorem Rd.drewN {w : World} {B size : Nat} {A : Option Addr} {n c : Nat} {rows : List (List Value)} (h : Rd w B size A n c rows) (k : Nat) : Rd (w.drewN k) B size A n c rows := h.keep (fun _ _ _ => rfl) (Nat.le_refl _)
theorem cellk {w w' : World} {a : Addr} {v : Value} (h : w.cell? a = some v) (hb : Below w.heap.size w w') : w'.cell? a = some v := (hb.cell (World.block_lt_of_cell? w a h)).trans h
end
section
theorem c126 (k v : ByteArray) (w : World) (_hk : k.size ≤ 140737488351232) (_hv : v.size ≤ 140737488351232) : Calls Tryz.prog 126 #[.agg #[.string k, .string v]] w fun e w' => (∃ r : Bool, e = .returned (.bool r)) ∧ Below w.heap.size w w' := by
 go_enter Tryz.func126, Tryz.ntmps126
 go_wp2_with fail
 all_goals
  go_ret
  exact ⟨⟨_, rfl⟩, (Below.refl _ _).alloc (Nat.le_refl _) _⟩
set_option maxHeartbeats 400000 in
theorem c73 (A : Option Addr) (n c : Nat) (l : List KV) (w : World) (h : Rd w w.heap.size 2 A n c (l.map enc2)) (hs : ∀ x ∈ l, x.Ok) :
 Calls Tryz.prog 73 #[.slice A n c] w fun e w' => (∃ r : Bool, e = .returned (.bool r)) ∧ Below w.heap.size w w' := by
 have hcap := h.cap
 have htop := h.top
 go_enter Tryz.func73, Tryz.ntmps73
 go_wp2_with fail
 · go_ret
   exact ⟨⟨_, rfl⟩, Below.refl _ _⟩
 · (
 go_loopw [10] (fun i wr => ∃ k : Nat, k ≤ n ∧ i = .int .i64 k ∧ Below w.heap.size w wr) (fun i _ => n - (intOf i).toNat)
 case atStart => exact ⟨0, Nat.zero_le _, rfl, Below.refl _ _⟩
 case round => (
 obtain ⟨k, hk, rfl, hb⟩ := hrel
 by_cases hlt : k < n
 · (
 obtain ⟨b, o, r, rfl, hbB, hr, hl, hc⟩ := (h.below hb).at_ hlt
 obtain ⟨x, hx, rfl⟩ : ∃ x, l[k]? = some x ∧ enc2 x = r := by simpa using hr
 have hc0 := hc 0 _ rfl
 rw [Nat.add_zero] at hc0
 have hc1 := hc 1 _ rfl
 have hsx := hs x (List.mem_of_getElem? hx)
 clear hc hr hl hx
 go_wp2_with (go_at_call 126; refine (c126 _ _ _ hsx.1 hsx.2).mono ?_; rintro e w' ⟨⟨r, rfl⟩, hb'⟩)
 · go_ret
   exact ⟨⟨_, rfl⟩, ((hb.alloc hb.size _).trans (hb'.mono (by simp; have := hb.size; omega)))⟩
 · (
 go_roundw
 case rel => exact ⟨k + 1, by omega, by go_num, ((hb.alloc hb.size _).trans (hb'.mono (by simp; have := hb.size; omega)))⟩
 case measure => simp [intOf]; omega))
 · (
 go_wp2_with fail
 go_ret
 exact ⟨⟨_, rfl⟩, hb⟩)))
theorem c47 (d : Dot) (s : Sl5) (w : World) (h : DotR w w.heap.size d s) : Calls Tryz.prog 47 #[.agg (ptCells d s).toArray] w fun e w' => (∃ r : Bool, e = .returned (.bool r)) ∧ Below w.heap.size w w' := by
 have hb1 := h.b.cap
 have hb2 := h.b.top
 have hk1 := h.k.cap
 have hk2 := h.k.top
 have hp1 := h.p.cap
 have hp2 := h.p.top
 have hn1 := h.n.cap
 have hn2 := h.n.top
 unfold ptCells
 go_enter Tryz.func47, Tryz.ntmps47
 have HA : ∀ o, Rd (w.alloc o) (w.alloc o).heap.size 2 s.a.A s.a.n s.a.c (d.attrs.map enc2) := fun o => (h.a.below ((Below.refl _ _).alloc (Nat.le_refl _) _)).more (by simp)
 have HA' := Lib.hid HA
 have hok := Lib.hid h.ok
 clear h HA
 go_wp2_with (go_at_call 73; refine (c73 _ _ _ _ _ (HA'.out _) (fun x hx => (hok.out.attrs x hx).1)).mono ?_; rintro e w' ⟨⟨r, rfl⟩, hb'⟩; obtain ⟨hc, hf⟩ := bcell hb')
 all_goals (go_ret; exact ⟨⟨_, rfl⟩, ((Below.refl _ _).alloc (Nat.le_refl _) _).trans (hb'.mono (by simp))⟩)
theorem c28 (d : Dot) (s : Sl5) (w : World) (h : DotR w w.heap.size d s) : Calls Tryz.prog 28 #[.agg (dotCells d s).toArray] w fun e w' => (∃ r : Bool, e = .returned (.bool r)) ∧ Below w.heap.size w w' := by
 unfold dotCells
 go_enter Tryz.func28, Tryz.ntmps28
 have HA : ∀ o, DotR (w.alloc o) (w.alloc o).heap.size d s := fun o => (h.below ((Below.refl _ _).alloc (Nat.le_refl _) _)).more (by simp)
 go_wp2_with (first | (go_at_call 47; refine (c47 d s _ (HA _)).mono ?_; rintro e w' ⟨⟨r, rfl⟩, hb'⟩) | ((with_reducible apply arm_load_topf [] (ptCells d s) [.int .i64 d.start, .int .i64 d.time] 0 16 info40 Tryz.underlying40); rfl; rfl; simp; rfl; rfl; rfl))
 all_goals (go_ret; exact ⟨⟨_, rfl⟩, ((Below.refl _ _).alloc (Nat.le_refl _) _).trans (hb'.mono (by simp))⟩)
theorem DotsR.at_ {w : World} {B : Nat} {A : Option Addr} {n c : Nat} {l : List (Dot × Sl5)} (h : DotsR w B A n c l) {i : Nat} (hi : i < n) :
 ∃ b o d s, A = some ⟨b, o, none⟩ ∧ b < B ∧ l[i]? = some (d, s) ∧ DotR w B d s ∧ w.rangeAt b (o + i * 18) (dotCells d s) := by
 obtain ⟨b, o, r, ha, hb, hr, _, hc⟩ := h.rd.at_ hi
 rw [List.getElem?_map, Option.map_eq_some_iff] at hr
 obtain ⟨⟨d, s⟩, hx, rfl⟩ := hr
 exact ⟨b, o, d, s, ha, hb, hx, h.all _ (List.mem_of_getElem? hx), hc⟩
set_option maxHeartbeats 400000 in
theorem c17 (A : Option Addr) (n c : Nat) (l : List (Dot × Sl5)) (w : World) (h : DotsR w w.heap.size A n c l) :
 Calls Tryz.prog 17 #[.slice A n c] w fun e w' => (∃ r : Bool, e = .returned (.bool r)) ∧ Below w.heap.size w w' := by
 have hcap := h.rd.cap
 have htop := h.rd.top
 go_enter Tryz.func17, Tryz.ntmps17
 go_wp2_with fail
 · go_ret
   exact ⟨⟨_, rfl⟩, Below.refl _ _⟩
 · (
 go_loopw [10] (fun i wr => ∃ k : Nat, k ≤ n ∧ i = .int .i64 k ∧ Below w.heap.size w wr) (fun i _ => n - (intOf i).toNat)
 case atStart => exact ⟨0, Nat.zero_le _, rfl, Below.refl _ _⟩
 case round => (
 obtain ⟨k, hk, rfl, hb⟩ := hrel
 by_cases hlt : k < n
 · (
 obtain ⟨b, o, d, s, rfl, hbB, hx, hd, hc⟩ := (h.below hb).at_ hlt
 have HA : ∀ ob, DotR (wr.alloc ob) (wr.alloc ob).heap.size d s := fun ob => ((hd.more hb.size).below ((Below.refl _ _).alloc (Nat.le_refl _) _)).more (by simp)
 have HA' := Lib.hid HA
 clear hx hd HA
 unfold dotCells at hc
 go_wp2_with (first | (go_at_call 28; refine (c28 d s _ (HA'.out _)).mono ?_; rintro e w' ⟨⟨r, rfl⟩, hb'⟩) | ((with_reducible refine arm_load hc ?_ 18 info42 Tryz.underlying42 ?_ ?_ ?_); rfl; rfl; rfl) | ((with_reducible apply arm_store_new 18 info42); rfl; simp; rfl; rfl; rfl; rfl) | ((with_reducible apply arm_load_top 18 info42 Tryz.underlying42); rfl; rfl; simp; rfl))
 · go_ret
   exact ⟨⟨_, rfl⟩, ((hb.alloc hb.size _).trans (hb'.mono (by simp; have := hb.size; omega)))⟩
 · (
 go_roundw
 case rel => exact ⟨k + 1, by omega, by go_num, ((hb.alloc hb.size _).trans (hb'.mono (by simp; have := hb.size; omega)))⟩
 case measure => simp [intOf]; omega))
 · (
 go_wp2_with fail
 go_ret
 exact ⟨⟨_, rfl⟩, hb⟩)))
theorem c6 (kd : Int) (f dl m : Bool) (A : Option Addr) (n c : Nat) (l : List (Dot × Sl5)) (w : World) (h : DotsR w w.heap.size A n c l) :
 Calls Tryz.prog 6 #[.agg #[.int .u8 kd, .bool f, .bool dl, .bool m, .slice A n c]] w fun e w' => (∃ r : Bool, e = .returned (.bool r)) ∧ Below w.heap.size w w' := by
 go_enter Tryz.func6, Tryz.ntmps6
 have HA : ∀ o, DotsR (w.alloc o) (w.alloc o).heap.size A n c l := fun o => (h.below ((Below.refl _ _).alloc (Nat.le_refl _) _)).more (by simp)
 go_wp2_with (go_at_call 17; refine (c17 _ _ _ _ _ (HA _)).mono ?_; rintro e w' ⟨⟨r, rfl⟩, hb'⟩)
 all_goals (go_ret; exact ⟨⟨_, rfl⟩, ((Below.refl _ _).alloc (Nat.le_refl _) _).trans (hb'.mono (by simp))⟩)
end
section
/-! ### Values and lists of values that are equal -/
attribute [local go_sem] call30
theorem c29 (a : Nat) (w : World) : Calls Tryz.prog 29 #[.float .f64 a] w fun e w' => e = .returned (.bool (!Op.floatEq .f64 a a)) ∧ w = w' := by
 go_enter Tryz.func29, Tryz.ntmps29
 go_wp2_with fail
 go_ret
 exact ⟨rfl, rfl⟩
theorem c18 (a : Int) (w : World) : Calls Tryz.prog 18 #[.int .u64 a] w fun e w' => e = .returned (.bool (Op.floatEq .f64 a.toNat a.toNat)) ∧ w = w' := by
 go_enter Tryz.func18, Tryz.ntmps18
 go_wp2_with (go_at_call 29; refine (c29 _ _).mono ?_; rintro e w' ⟨rfl, rfl⟩)
 go_ret
 exact ⟨by simp, rfl⟩
def dVal (fl : Bool) (a b : Int) : Bool := if fl then Op.floatEq .f64 a.toNat b.toNat else a == b
theorem c46 (fl : Bool) (a b : Int) (w : World) : Calls Tryz.prog 46 #[.bool fl, .int .u64 a, .int .u64 b] w fun e w' => e = .returned (.bool (dVal fl a b)) ∧ w = w' := by
 go_enter Tryz.func46, Tryz.ntmps46
 cases fl
 all_goals
  go_wp2_with fail
  go_ret
  exact ⟨rfl, rfl⟩
def dExt (fl h1 h2 : Bool) (a b : Int) : Bool := h1 == h2 && (!h1 || dVal fl a b)
theorem c43 (fl h1 h2 : Bool) (a b : Int) (w : World) : Calls Tryz.prog 43 #[.bool fl, .bool h1, .bool h2, .int .u64 a, .int .u64 b] w fun e w' => e = .returned (.bool (dExt fl h1 h2 a b)) ∧ w = w' := by
 cases h1 <;> cases h2
 all_goals
  go_enter Tryz.func43, Tryz.ntmps43
  go_wp2_with (go_at_call 46; refine (c46 _ _ _ _).mono ?_; rintro e w' ⟨rfl, rfl⟩)
  go_ret
  exact ⟨rfl, rfl⟩
theorem c72 (a b : Int) (w : World) : Calls Tryz.prog 72 #[.int .u64 a, .int .u64 b] w fun e w' => e = .returned (.bool (dVal true a b)) ∧ w = w' := by
 go_enter Tryz.func72, Tryz.ntmps72
 go_wp2_with (go_at_call 46; refine (c46 _ _ _ _).mono ?_; rintro e w' ⟨rfl, rfl⟩)
 go_ret
 exact ⟨rfl, rfl⟩
theorem ret_b {a b : Bool} (h : b = a) : Ending.returned (.bool a) = .returned (.bool b) := by rw [h]
/-- Two lists, one to one. -/
def listEq {α : Type} (p : α → α → Bool) : List α → List α → Bool
 | [], [] => true
 | x :: xs, y :: ys => p x y && listEq p xs ys
 | _, _ => false
theorem listEq_len {α : Type} {p : α → α → Bool} : ∀ {xs ys : List α}, listEq p xs ys = true → xs.length = ys.length
 | [], [], _ => rfl
 | x :: xs, y :: ys, h => by
  simp only [listEq, Bool.and_eq_true] at h
  simp [listEq_len h.2]
 | [], _ :: _, h => by simp [listEq] at h
 | _ :: _, [], h => by simp [listEq] at h
theorem listEq_at {α : Type} {p : α → α → Bool} : ∀ {xs ys : List α}, listEq p xs ys = true → ∀ (k : Nat) (x y : α), xs[k]? = some x → ys[k]? = some y → p x y = true
 | [], [], _, k, x, y, hx, _ => by simp at hx
 | x :: xs, y :: ys, h, 0, a, b, hx, hy => by
  simp only [listEq, Bool.and_eq_true] at h
  simp at hx hy
  subst hx
  subst hy
  exact h.1
 | x :: xs, y :: ys, h, k + 1, a, b, hx, hy => by
  simp only [listEq, Bool.and_eq_true] at h
  exact listEq_at h.2 k a b (by simpa using hx) (by simpa using hy)
 | [], _ :: _, h, _, _, _, _, _ => by simp [listEq] at h
 | _ :: _, [], h, _, _, _, _, _ => by simp [listEq] at h
theorem listEq_of {α : Type} {p : α → α → Bool} : ∀ {xs ys : List α}, xs.length = ys.length → (∀ (k : Nat) (x y : α), xs[k]? = some x → ys[k]? = some y → p x y = true) → listEq p xs ys = true
 | [], [], _, _ => rfl
 | x :: xs, y :: ys, hl, h => by
  simp only [listEq, Bool.and_eq_true]
  exact ⟨h 0 x y rfl rfl, listEq_of (by simpa using hl) fun k a b ha hb => h (k + 1) a b (by simpa using ha) (by simpa using hb)⟩
 | [], _ :: _, hl, _ => by simp at hl
 | _ :: _, [], hl, _ => by simp at hl
theorem listEq_false_len {α : Type} {p : α → α → Bool} {xs ys : List α} (h : xs.length ≠ ys.length) : listEq p xs ys = false := by
 cases e : listEq p xs ys with
 | false => rfl
 | true => exact (h (listEq_len e)).elim
theorem listEq_false_at {α : Type} {p : α → α → Bool} {xs ys : List α} {k : Nat} {x y : α} (hx : xs[k]? = some x) (hy : ys[k]? = some y) (hp : p x y = false) : listEq p xs ys = false := by
 cases e : listEq p xs ys with
 | false => rfl
 | true => have := listEq_at e k x y hx hy; rw [hp] at this; cases this
/-- The first k pairs are equal. -/
def SameTo {α : Type} (p : α → α → Bool) (xs ys : List α) (k : Nat) : Prop := ∀ (j : Nat) (x y : α), j < k → xs[j]? = some x → ys[j]? = some y → p x y = true
theorem SameTo.zero {α : Type} {p : α → α → Bool} {xs ys : List α} : SameTo p xs ys 0 := fun j _ _ h => by omega
theorem SameTo.succ {α : Type} {p : α → α → Bool} {xs ys : List α} {k : Nat} {x y : α} (h : SameTo p xs ys k) (hx : xs[k]? = some x) (hy : ys[k]? = some y) (hp : p x y = true) : SameTo p xs ys (k + 1) := by
 intro j a b hj ha hb
 by_cases e : j = k
 · (
 subst e
 rw [hx] at ha
 rw [hy] at hb
 injection ha with ha
 injection hb with hb
 subst ha
 subst hb
 exact hp)
 · exact h j a b (by omega) ha hb
theorem SameTo.all {α : Type} {p : α → α → Bool} {xs ys : List α} {k : Nat} (h : SameTo p xs ys k) (hk : xs.length ≤ k) (hl : xs.length = ys.length) : listEq p xs ys = true :=
 listEq_of hl fun j x y hx hy => h j x y (by have := (List.getElem?_eq_some_iff.1 hx).1; omega) hx hy
theorem Rd.num {w : World} {B : Nat} {A : Option Addr} {n c : Nat} {xs : List Int} (h : Rd w B 1 A n c (xs.map encU)) {i : Nat} (hi : i < n) :
 ∃ b o x, A = some ⟨b, o, none⟩ ∧ b < B ∧ xs[i]? = some x ∧ w.cell? ⟨b, o + i, none⟩ = some (.int .u64 x) := by
 obtain ⟨b, o, r, ha, hb, hr, hl, hc⟩ := h.at_ hi
 rw [List.getElem?_map, Option.map_eq_some_iff] at hr
 obtain ⟨x, hx, rfl⟩ := hr
 have := hc 0 _ rfl
 rw [Nat.mul_one, Nat.add_zero] at this
 exact ⟨b, o, x, ha, hb, hx, this⟩
theorem Rd.numlen {w : World} {B size : Nat} {α : Type} {f : α → List Value} {A : Option Addr} {n c : Nat} {xs : List α} (h : Rd w B size A n c (xs.map f)) : xs.length = n := by simpa using h.len
set_option maxHeartbeats 400000 in
theorem c71 (A1 A2 : Option Addr) (n1 n2 k1 k2 : Nat) (xs ys : List Int) (B : Nat) (w : World) (h1 : Rd w B 1 A1 n1 k1 (xs.map encU)) (h2 : Rd w B 1 A2 n2 k2 (ys.map encU)) :
 Calls Tryz.prog 71 #[.slice A1 n1 k1, .slice A2 n2 k2, .func (.func 72) #[] #[]] w fun e w' => e = .returned (.bool (listEq (dVal true) xs ys)) ∧ w = w' := by
 have l1 := h1.numlen
 have l2 := h2.numlen
 have b1 := h1.cap
 have b2 := h2.cap
 have t1 := h1.top
 have t2 := h2.top
 by_cases hn : n1 = n2
 · (
 have hl : Hid (xs.length = ys.length) := by unfold Hid; omega
 subst hn
 have l1' := Lib.hid l1
 have l2' := Lib.hid l2
 clear l1 l2
 go_enter Tryz.func71, Tryz.ntmps71
 go_wp2_with fail
 go_loop [17] (fun i => ∃ k : Nat, k ≤ n1 ∧ i = .int .i64 k ∧ SameTo (dVal true) xs ys k) (fun i => n1 - (intOf i).toNat)
 case atStart => exact ⟨0, Nat.zero_le _, rfl, SameTo.zero⟩
 case round => (
 obtain ⟨k, hk, rfl, hs⟩ := hrel
 by_cases hlt : k < n1
 · (
 obtain ⟨ba, oa, x, rfl, _, hx, ca⟩ := h1.num hlt
 obtain ⟨bb, ob, y, rfl, _, hy, cb⟩ := h2.num hlt
 have hx' := Lib.hid hx
 have hy' := Lib.hid hy
 clear hx hy
 cases hp : dVal true x y with
 | true =>
  have hp' := Lib.hid hp
  go_wp2_with (go_at_call 72; refine (c72 _ _ _).mono ?_; rintro e w' ⟨rfl, rfl⟩)
  go_round
  case rel => exact ⟨k + 1, by omega, by go_num, hs.succ hx'.out hy'.out hp'.out⟩
  case measure => simp [intOf]; omega
 | false =>
  have hp' := Lib.hid hp
  go_wp2_with (go_at_call 72; refine (c72 _ _ _).mono ?_; rintro e w' ⟨rfl, rfl⟩)
  go_ret
  exact ⟨ret_b (listEq_false_at hx'.out hy'.out hp'.out), rfl⟩)
 · (
 go_wp2_with fail
 go_ret
 exact ⟨ret_b (hs.all (by have := l1'.out; omega) hl.out), rfl⟩)))
 · (
 go_enter Tryz.func71, Tryz.ntmps71
 go_wp2_with fail
 go_ret
 exact ⟨ret_b (listEq_false_len (by omega)), rfl⟩)
theorem c44 (A1 A2 : Option Addr) (n1 n2 k1 k2 : Nat) (xs ys : List Int) (B : Nat) (w : World) (h1 : Rd w B 1 A1 n1 k1 (xs.map encU)) (h2 : Rd w B 1 A2 n2 k2 (ys.map encU)) :
 Calls Tryz.prog 44 #[.slice A1 n1 k1, .slice A2 n2 k2] w fun e w' => e = .returned (.bool (listEq (dVal true) xs ys)) ∧ w = w' := by
 have h1' := Lib.hid h1
 have h2' := Lib.hid h2
 clear h1 h2
 go_enter Tryz.func44, Tryz.ntmps44
 go_wp2_with (go_at_call 71; refine (c71 _ _ _ _ _ _ _ _ _ _ h1'.out h2'.out).mono ?_; rintro e w' ⟨rfl, rfl⟩)
 go_ret
 exact ⟨rfl, rfl⟩
set_option maxHeartbeats 400000 in
theorem c45 (A1 A2 : Option Addr) (n1 n2 k1 k2 : Nat) (xs ys : List Int) (w : World) (h1 : Rd w w.heap.size 1 A1 n1 k1 (xs.map encU)) (h2 : Rd w w.heap.size 1 A2 n2 k2 (ys.map encU)) :
 Calls Tryz.prog 45 #[.slice A1 n1 k1, .slice A2 n2 k2] w fun e w' => e = .returned (.bool (listEq (fun a b : Int => a == b) xs ys)) ∧ Below w.heap.size w w' := by
 have l1 := h1.numlen
 have l2 := h2.numlen
 have b1 := h1.cap
 have b2 := h2.cap
 have t1 := h1.top
 have t2 := h2.top
 by_cases hn : n1 = n2
 · (
 have hl : Hid (xs.length = ys.length) := by unfold Hid; omega
 subst hn
 have l1' := Lib.hid l1
 have l2' := Lib.hid l2
 clear l1 l2
 go_enter Tryz.func45, Tryz.ntmps45
 go_wp2_with fail
 go_loopw [13] (fun i wr => ∃ k : Nat, k ≤ n1 ∧ i = .int .i64 k ∧ SameTo (fun a b : Int => a == b) xs ys k ∧ Below w.heap.size w wr) (fun i _ => n1 - (intOf i).toNat)
 case atStart => exact ⟨0, Nat.zero_le _, rfl, SameTo.zero, Below.refl _ _⟩
 case round => (
 obtain ⟨k, hk, rfl, hs, hb⟩ := hrel
 by_cases hlt : k < n1
 · (
 obtain ⟨ba, oa, x, rfl, _, hx, ca⟩ := (h1.below hb).num hlt
 obtain ⟨bb, ob, y, rfl, _, hy, cb⟩ := (h2.below hb).num hlt
 have hx' := Lib.hid hx
 have hy' := Lib.hid hy
 clear hx hy h1 h2
 have hi0 : (0 : Int) ≤ (k : Int) := by omega
 have hi1 : (k : Int) < (n1 : Int) := by omega
 cases hp : (x == y) with
 | true =>
  have hq : (x != y) = false := by simp [bne, hp]
  have hp' := Lib.hid hp
  go_wp2_with fail
  go_quiet (fail)
  go_wp2_with fail
  go_roundw
  case rel => exact ⟨k + 1, by omega, by go_num, hs.succ hx'.out hy'.out hp'.out, below_drewN hb _⟩
  case measure => simp [intOf]; omega
 | false =>
  have hq : (x != y) = true := by simp [bne, hp]
  have hp' := Lib.hid hp
  go_wp2_with fail
  go_quiet (fail)
  go_wp2_with fail
  go_ret
  exact ⟨ret_b (listEq_false_at hx'.out hy'.out hp'.out), below_drewN hb _⟩)
 · (
 go_wp2_with fail
 go_ret
 exact ⟨ret_b (hs.all (by have := l1'.out; omega) hl.out), hb⟩)))
 · (
 go_enter Tryz.func45, Tryz.ntmps45
 go_wp2_with fail
 go_ret
 exact ⟨ret_b (listEq_false_len (by omega)), Below.refl _ _⟩)
end
end Go.Proofs.YtlpddogcnpokfaaGreatDoor
