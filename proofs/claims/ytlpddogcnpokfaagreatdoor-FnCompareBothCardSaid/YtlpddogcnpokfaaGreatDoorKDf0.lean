/- Contracts of functions of the program, for the comparison of aggregations (part KDf0). -/
import Derived.Test.YtlpddogcnpokfaaGreatDoorKJs2
import Derived.Deep.CutBlock
import Derived.Great.BuildSlice
set_option linter.all false
namespace Go.Proofs.YtlpddogcnpokfaaGreatDoor
open Go.RowKit
theorem eq0b {n : Nat} {b : Bool} (h : n = 0 ↔ b = true) : ((n : Int) == 0) = b := by
 cases b
 · have : n ≠ 0 := fun e => by simpa using h.1 e
   simp; omega
 · (
 have : n = 0 := h.2 rfl
 subst this
 rfl)
def visC (vis : List Bool) : Array Value := (vis.map Value.bool).toArray
theorem info4 : (Tryz.prog.info? 4).map (fun i => (i.zero, i.size, i.bytes)) = some (some (.bool false), 1, 1) := by kernel_rfl
theorem made_bools (n : Nat) : madeCells (Value.bool false).cells n = visC (List.replicate n false) := by
 have hz : (Value.bool false).cells = #[.bool false] := rfl
 rw [hz]
 apply Array.ext_getElem?
 intro i
 unfold madeCells visC
 rw [Array.getElem?_map, ← Array.getElem?_toList, ← Array.getElem?_toList, List.getElem?_map, List.getElem?_replicate, Array.toList_range]
 by_cases hi : i < n
 · rw [if_pos hi, List.getElem?_range hi]
   simp [Nat.mod_one]
 · rw [if_neg hi, List.getElem?_eq_none (by simp; omega)]
   rfl
theorem mk_bools (n : Nat) (w : World) (hn : n ≤ 1000) : (Instr.makeSlice 32 (.int .i64 n) (.int .i64 n)).run Tryz.prog w = .ok (.slice (some ⟨w.heap.size, 0, none⟩) n n) (w.alloc (.cells (visC (List.replicate n false)) 4)) := by
 obtain ⟨i0, hi, hz0, hz1, hz2⟩ := info_parts3 info4
 have h := run_makeSlice (P := Tryz.prog) (w := w) 32 4 i0 (.bool false) Tryz.underlying32 hi hz0 .i64 .i64 n n (by omega) (Int.le_refl _) (by rw [hz1, Int.toNat_natCast]; omega) (by rw [hz2]; omega) (by omega)
 rw [hz1, Int.toNat_natCast, Nat.mul_one, made_bools] at h
 exact h
theorem visC_at {vis : List Bool} {j : Nat} {b : Bool} (h : vis[j]? = some b) : (visC vis)[j]? = some (.bool b) := by
 unfold visC
 rw [List.getElem?_toArray, List.getElem?_map, h]
 rfl
theorem visC_set (vis : List Bool) (j : Nat) (b : Bool) : (visC vis).setIfInBounds j (.bool b) = visC (vis.set j b) := by
 unfold visC
 rw [List.map_set]
 simp
structure Seen (w wr : World) (vis : List Bool) : Prop where
 blk : wr.heap[w.heap.size]? = some (.cells (visC vis) 4 (0, 0))
 bel : Below w.heap.size w wr
theorem Seen.below {w wr w1 : World} {vis : List Bool} (h : Seen w wr vis) (hb : Below wr.heap.size wr w1) : Seen w w1 vis :=
 ⟨(hb.block _ (Array.getElem?_eq_some_iff.1 h.blk).1).trans h.blk, below_then h.bel h.bel.size hb⟩
theorem Seen.lt {w wr : World} {vis : List Bool} (h : Seen w wr vis) : w.heap.size < wr.heap.size := (Array.getElem?_eq_some_iff.1 h.blk).1
theorem Seen.grown {w wr w1 : World} {vis : List Bool} (h : Seen w wr vis) {row : Option Nat} (hg : wr.grownBy w1 row) (hr : ∀ k, row = some k → w.heap.size + 1 ≤ k) : Seen w w1 vis :=
 ⟨(hg.block _ h.lt (fun e => by have := hr _ e.symm; omega)).trans h.blk, h.bel.grown hg h.bel.size (fun k hk => by have := hr k hk; omega)⟩
theorem Seen.set {w wr : World} {vis : List Bool} (h : Seen w wr vis) (j : Nat) : Seen w (wr.setCell ⟨w.heap.size, j, none⟩ (.bool true)) (vis.set j true) :=
 ⟨by rw [heap_setCell_same wr _ j _ _ _ h.blk, visC_set], h.bel.setCell (Nat.le_refl _) _⟩
theorem Seen.cell {w wr : World} {vis : List Bool} (h : Seen w wr vis) {j : Nat} {b : Bool} (hj : vis[j]? = some b) : wr.cell? ⟨w.heap.size, j, none⟩ = some (.bool b) := blk_cell h.blk j _ (visC_at hj)
/-- Rows of the call's own, behind the marks. -/
structure Ext (w wr : World) (ty : TypeId) (sz : Nat) (v : Value) (m : Nat) : Prop where
 ex : ∃ rows, wr.ownsRow (w.heap.size + 1) ty sz v m rows
theorem Ext.below {w wr w1 : World} {ty : TypeId} {sz m : Nat} {v : Value} (h : Ext w wr ty sz v m) (hb : Below wr.heap.size wr w1) : Ext w w1 ty sz v m := by
 obtain ⟨rows, h⟩ := h
 exact ⟨rows, own_of_block h (fun g hg => hb.block g (h.lt g hg).2)⟩
theorem Ext.set {w wr : World} {ty : TypeId} {sz m : Nat} {v : Value} (h : Ext w wr ty sz v m) (j : Nat) (u : Value) : Ext w (wr.setCell ⟨w.heap.size, j, none⟩ u) ty sz v m := by
 obtain ⟨rows, h⟩ := h
 exact ⟨rows, own_of_block h (fun g hg => heap_setCell_other _ _ _ _ (by have := (h.lt g hg).1; show g ≠ w.heap.size; omega))⟩
theorem Ext.slice {w wr : World} {ty : TypeId} {sz m : Nat} {v : Value} (h : Ext w wr ty sz v m) : ∃ A c, v = .slice A m c := by
 obtain ⟨rows, h⟩ := h
 exact own_slice h
/-- What the rounds have done so far. -/
structure D1 {α : Type} (p : α → α → Bool) (xs ys : List α) (w : World) (ty : TypeId) (sz : Nat) (s10 s21 : Value) (wr : World) : Prop where
 ex : ∃ (k m : Nat) (vis : List Bool) (fl : Bool), k ≤ xs.length ∧ s21 = .int .i64 k ∧ Ext w wr ty sz s10 m ∧ m ≤ k ∧ (m = 0 ↔ fl = true) ∧ vis.length = ys.length ∧ Seen w wr vis ∧ marks p xs ys (List.replicate ys.length false) = (fl && (marks p (xs.drop k) ys vis).1, (marks p (xs.drop k) ys vis).2)
structure D2 {α : Type} (q : α → Bool) (ys : List α) (vis : List Bool) (w : World) (ty : TypeId) (sz m : Nat) (s10 s13 s26 : Value) (wr : World) : Prop where
 ex : ∃ j : Nat, j ≤ ys.length ∧ s26 = .int .i64 j ∧ s13 = .bool false ∧ Ext w wr ty sz s10 m ∧ Seen w wr vis ∧ (∀ (i : Nat) (y : α), i < j → ys[i]? = some y → vis[i]? = some true ∨ q y = false)
structure D3 {α : Type} (q : α → Bool) (ys : List α) (vis : List Bool) (w : World) (ty : TypeId) (sz m : Nat) (s10 s13 : Value) (wr : World) : Prop where
 ex : ∃ vis' : List Bool, ((s13 = .bool false ∧ pick q ys vis = none ∧ vis' = vis) ∨ (s13 = .bool true ∧ pick q ys vis = some vis')) ∧ Ext w wr ty sz s10 m ∧ Seen w wr vis'
structure D4 (vis : List Bool) (N : Nat) (w : World) (ty : TypeId) (sz : Nat) (s11 s61 : Value) (wr : World) : Prop where
 ex : ∃ k m2 : Nat, k ≤ N ∧ s61 = .int .i64 k ∧ Ext w wr ty sz s11 m2 ∧ m2 ≤ k ∧ (m2 = 0 ↔ (vis.take k).all id = true) ∧ Seen w wr vis
def dres (b : Bool) : Value := .string (if b then ⟨#[]⟩ else ⟨#[110, 111, 116, 32, 101, 113, 117, 97, 108]⟩)
/-! ### A slice of one struct -/
theorem wpList_build1 {P : Program} {ops : Array Oper} {rest : List Oper} {o : Oper} {a : Act} {w : World} {Q : Exit → Act → World → Prop} (e : TypeId) (n : Nat) (hi : ∃ i z, P.info? e = some i ∧ i.zero = some z ∧ i.size = n ∧ z.cells.size = n) (hg : o.guard = none) (t : TypeId) (x : Operand) (ho : o.op = .buildSlice t 1 #[(0, x)])
 (hu : P.underlying t = some (.slice e)) (h0 : 0 < n ∧ n ≤ 100) {cs : Array Value} (hx : a.eval x = .agg cs) (hcs : cs.size = n)
 (h : wpList P ops Q rest (a.put o.dst (.slice (some ⟨w.heap.size, 0, none⟩) 1 1)) (w.alloc (.cells cs e))) : wpList P ops Q (o :: rest) a w := by
 obtain ⟨i, z, h1, h2, h3, h4⟩ := hi
 refine wpList_buildSlice hg t e 1 #[(0, x)] ho cs i z hu h1 h2 (by rw [h3]; omega) (by rw [h3]; omega) ?_ h
 have hf := Great.fill_whole (s := n) h0.1 [Value.agg cs] ((Array.range (1 * n)).map (z.cells[· % z.cells.size]!)) (by intro v hv; simp at hv; subst hv; exact hcs) (by simp)
 rw [h3]
 have e1 : (Array.map (fun (x : Nat × Operand) => (x.1, a.eval x.2)) #[(0, x)]).toList = [(0, Value.agg cs)] := by simp [hx]
 have e2 : (#[(0, x)].map fun (i, x) => (i, a.eval x)).toList = [(0, Value.agg cs)] := e1
 rw [e2]
 simpa [Value.cells] using hf
theorem wpList_ext {P : Program} {ops : Array Oper} {rest : List Oper} {o : Oper} {a : Act} {Q : Exit → Act → World → Prop} {ty : TypeId} {sz by_ : Nat} (hi : ∃ i z, P.info? ty = some i ∧ i.zero = some z ∧ i.size = sz ∧ i.bytes = by_ ∧ z.cells.size = sz) (hby : by_ ≤ 1000) (hsz : 0 < sz)
 {w0 w : World} {vis : List Bool} {m : Nat} {v : Value} {cs : Array Value} (hE : Ext w0 w ty sz v m) (hS : Seen w0 w vis) (hm : m ≤ 1000) (hcs : cs.size = sz) (hone : ∀ u ∈ cs.toList, u.oneCell' = true) (hgd : o.guard = none) (s x : Operand) (t : TypeId)
 (ho : o.op = .call { callee := .builtin .append, args := #[s, x], argTypes := #[t, t] }) (hu : P.underlying t = some (.slice ty)) (hs : a.eval s = v) {g : Nat} (hx : a.eval x = .slice (some ⟨g, 0, none⟩) 1 1) (hg : g = w.heap.size)
 (H : ∀ v1 w1, Ext w0 w1 ty sz v1 (m + 1) → Seen w0 w1 vis → wpList P ops Q rest (a.put o.dst v1) w1) : wpList P ops Q (o :: rest) a (w.alloc (.cells cs ty)) := by
 subst hg
 obtain ⟨i, z, h1, h2, h3, h4, h5⟩ := hi
 have hEa := hE.below ((Below.refl _ _).alloc (Nat.le_refl _) (.cells cs ty))
 have hSa := hS.below ((Below.refl _ _).alloc (Nat.le_refl _) (.cells cs ty))
 obtain ⟨rows, hown⟩ := hEa.ex
 have hlt := hS.lt
 refine wpList_append_own_at _ hgd s x t ho (w0.heap.size + 1) ty i z sz by_ hu h1 h2 h3 h4 h5 hsz v m rows hs hown ⟨w.heap.size, 0, none⟩ 1 1 cs.toList hx (by simpa using hcs) ?_ hone (by simp only [maxLen]; omega) ?_ (by rw [World.size_alloc]; omega) ?_
 · (
 intro j u hu2
 rw [Addr.add_mid, Nat.zero_add]
 exact blk_cell (heap_alloc_new w _) j u (by simpa using hu2))
 · have : (m + 1) * by_ ≤ 1001 * 1000 := Nat.mul_le_mul (by omega) hby
   omega
 · intro v1 w1 hown1 hg1 _ _
   exact H v1 w1 ⟨_, hown1⟩ (hSa.grown hg1 (fun k hk => (hown.lt k hk).1))
theorem infoD_of {P : Program} {ty : TypeId} {sz by_ : Nat} (h : (P.info? ty).map (fun i => (i.zero.map (fun z => z.cells.size), i.size, i.bytes)) = some (some sz, sz, by_)) : ∃ i z, P.info? ty = some i ∧ i.zero = some z ∧ i.size = sz ∧ i.bytes = by_ ∧ z.cells.size = sz := by
 cases hi : P.info? ty with
 | none => rw [hi] at h; simp at h
 | some i =>
  rw [hi] at h
  simp only [Option.map_some, Option.some.injEq, Prod.mk.injEq, Option.map_eq_some_iff] at h
  obtain ⟨⟨z, hz, hc⟩, h2, h3⟩ := h
  exact ⟨i, z, rfl, hz, h2, h3, hc⟩
theorem infoD_four {P : Program} {ty : TypeId} {sz by_ : Nat} (h : ∃ i z, P.info? ty = some i ∧ i.zero = some z ∧ i.size = sz ∧ i.bytes = by_ ∧ z.cells.size = sz) : ∃ i z, P.info? ty = some i ∧ i.zero = some z ∧ i.size = sz ∧ z.cells.size = sz := by
 obtain ⟨i, z, h1, h2, h3, _, h5⟩ := h
 exact ⟨i, z, h1, h2, h3, h5⟩
theorem info170 : (Tryz.prog.info? 170).map (·.size) = some 6 := by kernel_rfl
theorem infoD170 : ∃ i z, Tryz.prog.info? 170 = some i ∧ i.zero = some z ∧ i.size = 6 ∧ i.bytes = 80 ∧ z.cells.size = 6 := infoD_of (by kernel_rfl)
theorem info156 : (Tryz.prog.info? 156).map (·.size) = some 6 := by kernel_rfl
theorem infoD156 : ∃ i z, Tryz.prog.info? 156 = some i ∧ i.zero = some z ∧ i.size = 6 ∧ i.bytes = 80 ∧ z.cells.size = 6 := infoD_of (by kernel_rfl)
theorem info175 : (Tryz.prog.info? 175).map (·.size) = some 13 := by kernel_rfl
theorem infoD175 : ∃ i z, Tryz.prog.info? 175 = some i ∧ i.zero = some z ∧ i.size = 13 ∧ i.bytes = 168 ∧ z.cells.size = 13 := infoD_of (by kernel_rfl)
theorem info162 : (Tryz.prog.info? 162).map (·.size) = some 13 := by kernel_rfl
theorem infoD162 : ∃ i z, Tryz.prog.info? 162 = some i ∧ i.zero = some z ∧ i.size = 13 ∧ i.bytes = 168 ∧ z.cells.size = 13 := infoD_of (by kernel_rfl)
theorem info178 : (Tryz.prog.info? 178).map (·.size) = some 18 := by kernel_rfl
theorem infoD178 : ∃ i z, Tryz.prog.info? 178 = some i ∧ i.zero = some z ∧ i.size = 18 ∧ i.bytes = 208 ∧ z.cells.size = 18 := infoD_of (by kernel_rfl)
theorem info167 : (Tryz.prog.info? 167).map (·.size) = some 18 := by kernel_rfl
theorem infoD167 : ∃ i z, Tryz.prog.info? 167 = some i ∧ i.zero = some z ∧ i.size = 18 ∧ i.bytes = 208 ∧ z.cells.size = 18 := infoD_of (by kernel_rfl)
end Go.Proofs.YtlpddogcnpokfaaGreatDoor
