/- Contracts of functions of the program, for the comparison of aggregations (part KDm1). -/
import Derived.Test.YtlpddogcnpokfaaGreatDoorKPm
import Derived.Deep.AppendLies
set_option linter.all false
namespace Go.Proofs.YtlpddogcnpokfaaGreatDoor
open Go.RowKit
theorem bq {w W : World} {o : Obj} (h : W = w.alloc o) : Below w.heap.size w W := ba h
/-! ### Making aggregations -/
/-- A point that is made, its slices in blocks that are let be. -/
structure PtK (w : World) (ok : Nat → Prop) (d : Dot) (s : Sl5) : Prop where
 pt : PtR w w.heap.size d s
 ok : ∀ t ∈ [s.a, s.b, s.k, s.p, s.n], ∀ b o sp, t.A = some ⟨b, o, sp⟩ → 0 < t.n → ok b
theorem Rd.stay {w w' : World} {size : Nat} {t : Sl} {rows : List (List Value)} {ok : Nat → Prop} (h : Rd w w.heap.size size t.A t.n t.c rows) (ho : ∀ b o sp, t.A = some ⟨b, o, sp⟩ → 0 < t.n → ok b)
 (hk : ∀ b, b < w.heap.size → ok b → w'.heap[b]? = w.heap[b]?) (hs : w.heap.size ≤ w'.heap.size) : Rd w' w'.heap.size size t.A t.n t.c rows := by
 refine ⟨h.len, h.cap, h.top, h.ctop, h.row, fun hn => ?_⟩
 obtain ⟨b, o, hA, hb, hc⟩ := h.mem hn
 have e := hk b hb (ho b o none hA hn)
 exact ⟨b, o, hA, by omega, fun j v hv => (cell_blk e).trans (hc j v hv)⟩
theorem PtK.step {w w' : World} {ok ok' : Nat → Prop} {d : Dot} {s : Sl5} (h : PtK w ok d s) (hk : ∀ b, b < w.heap.size → ok b → w'.heap[b]? = w.heap[b]?) (ho : ∀ b, b < w.heap.size → ok b → ok' b) (hs : w.heap.size ≤ w'.heap.size) : PtK w' ok' d s := by
 obtain ⟨⟨⟨h1, h2, h3, h4⟩, h5, h6, h7, h8⟩, hok⟩ := h
 have oa := hok s.a (by simp)
 have ob := hok s.b (by simp)
 have okk := hok s.k (by simp)
 have op := hok s.p (by simp)
 have on := hok s.n (by simp)
 refine ⟨⟨⟨h1.stay oa hk hs, h2, h3, h4⟩, h5.stay (t := s.b) ob hk hs, h6.stay (t := s.k) okk hk hs, h7.stay (t := s.p) op hk hs, h8.stay (t := s.n) on hk hs⟩, fun t ht b o sp e hn => ?_⟩
 have hlt : b < w.heap.size := by
  simp only [List.mem_cons, List.not_mem_nil, or_false] at ht
  rcases ht with rfl | rfl | rfl | rfl | rfl
  · obtain ⟨b', o', e', hb, _⟩ := h1.mem hn; rw [e] at e'; injection e' with e'; injection e' with e1 _ _; omega
  · obtain ⟨b', o', e', hb, _⟩ := h5.mem hn; rw [e] at e'; injection e' with e'; injection e' with e1 _ _; omega
  · obtain ⟨b', o', e', hb, _⟩ := h6.mem hn; rw [e] at e'; injection e' with e'; injection e' with e1 _ _; omega
  · obtain ⟨b', o', e', hb, _⟩ := h7.mem hn; rw [e] at e'; injection e' with e'; injection e' with e1 _ _; omega
  · obtain ⟨b', o', e', hb, _⟩ := h8.mem hn; rw [e] at e'; injection e' with e'; injection e' with e1 _ _; omega
 exact ho b hlt (hok t ht b o sp e hn)
/-- The points that are made so far: in a row of the call's own, that the block x6 names. -/
structure DM (w wr : World) (T ty : TypeId) (sz : Nat) (enc : Dot × Sl5 → List Value) (x6 : Nat) (tail : List Value) (ms : List Dot) (v : Value) : Prop where
 ex : ∃ pts : List (Dot × Sl5), pts.map (·.1) = ms ∧ wr.ownsRow w.heap.size ty sz v ms.length (pts.map enc).flatten ∧ (∀ q ∈ pts, PtK wr (fun b => v.ownBlock ≠ some b ∧ b ≠ x6) q.1 q.2)
 blk : wr.heap[x6]? = some (.cells (v :: tail).toArray T (0, 0))
 ne : v.ownBlock ≠ some x6
 bel : Below w.heap.size w wr
theorem DM.below {w wr w1 : World} {T ty : TypeId} {sz x6 : Nat} {enc : Dot × Sl5 → List Value} {tail : List Value} {ms : List Dot} {v : Value} (h : DM w wr T ty sz enc x6 tail ms v) (hb : Below wr.heap.size wr w1) : DM w w1 T ty sz enc x6 tail ms v := by
 obtain ⟨⟨pts, h1, h2, h3⟩, h4, h5, h6⟩ := h
 exact ⟨⟨pts, h1, own_of_block h2 (fun g hg => hb.block g (h2.lt g hg).2), fun q hq => (h3 q hq).step (fun b hlt _ => hb.block b hlt) (fun b _ h => h) hb.size⟩, (hb.block _ (Array.getElem?_eq_some_iff.1 h4).1).trans h4, h5, below_then h6 h6.size hb⟩
theorem DM.slice {w wr : World} {T ty : TypeId} {sz x6 : Nat} {enc : Dot × Sl5 → List Value} {tail : List Value} {ms : List Dot} {v : Value} (h : DM w wr T ty sz enc x6 tail ms v) : ∃ A c, v = .slice A ms.length c := by
 obtain ⟨⟨pts, h1, h2, h3⟩, _⟩ := h
 exact own_slice h2
/-- One point more, its row laid in the last block; the struct still names the elder row. -/
theorem DM.grown {w wr w1 : World} {T ty : TypeId} {sz x6 : Nat} {enc : Dot × Sl5 → List Value} {tail : List Value} {ms : List Dot} {v v1 : Value} (h : DM w wr T ty sz enc x6 tail ms v) (hx6 : w.heap.size ≤ x6) {q : Dot × Sl5} (hq : PtK wr (fun b => v.ownBlock ≠ some b ∧ b ≠ x6) q.1 q.2)
 (ho : ∃ pts : List (Dot × Sl5), pts.map (·.1) = ms ∧ (∀ q ∈ pts, PtK wr (fun b => v.ownBlock ≠ some b ∧ b ≠ x6) q.1 q.2) ∧ w1.ownsRow w.heap.size ty sz v1 (ms.length + 1) ((pts.map enc).flatten ++ enc q)) (hg : wr.grownBy w1 v.ownBlock) (hv : v1.ownBlock = v.ownBlock ∨ ∃ g, v1.ownBlock = some g ∧ wr.heap.size ≤ g) :
 DM w (w1.setCell ⟨x6, 0, none⟩ v1) T ty sz enc x6 tail (ms ++ [q.1]) v1 := by
 obtain ⟨pts, h1, h3, hown1⟩ := ho
 obtain ⟨⟨_, _, h2, _⟩, h4, h5, h6⟩ := h
 have hlt6 := (Array.getElem?_eq_some_iff.1 h4).1
 have hne1 : v1.ownBlock ≠ some x6 := by
  rcases hv with e | ⟨g, e, hge⟩
  · rw [e]; exact h5
  · rw [e]; intro e2; injection e2 with e2; omega
 have hb6 : w1.heap[x6]? = some (.cells (v :: tail).toArray T (0, 0)) := (hg.block x6 hlt6 (Ne.symm h5)).trans h4
 have hoth : ∀ b, b ≠ x6 → (w1.setCell ⟨x6, 0, none⟩ v1).heap[b]? = w1.heap[b]? := fun b hb => heap_setCell_other _ _ _ _ hb
 have hss : (w1.setCell ⟨x6, 0, none⟩ v1).heap.size = w1.heap.size := by simp [World.setCell]
 have hkeep : ∀ (d : Dot) (s : Sl5), PtK wr (fun b => v.ownBlock ≠ some b ∧ b ≠ x6) d s → PtK (w1.setCell ⟨x6, 0, none⟩ v1) (fun b => v1.ownBlock ≠ some b ∧ b ≠ x6) d s := fun d s hp =>
  hp.step (fun b hlt hok => (hoth b hok.2).trans (hg.block b hlt (Ne.symm hok.1))) (fun b hlt hok => ⟨by
   rcases hv with e | ⟨g, e, hge⟩
   · rw [e]; exact hok.1
   · rw [e]; intro e2; injection e2 with e2; omega, hok.2⟩) (by rw [hss]; exact hg.size)
 refine ⟨⟨pts ++ [q], by simp [h1], ?_, fun r hr => ?_⟩, ?_, hne1, ?_⟩
 · (
 have e1 : ((pts ++ [q]).map enc).flatten = (pts.map enc).flatten ++ enc q := by simp
 rw [e1, List.length_append, List.length_singleton]
 exact own_of_block hown1 (fun g hg2 => hoth g (fun e => hne1 (by rw [hg2, e]))))
 · (
 rcases List.mem_append.1 hr with hr | hr
 · exact hkeep _ _ (h3 r hr)
 · simp at hr; subst hr; exact hkeep _ _ hq)
 · rw [heap_setCell_same w1 x6 0 _ _ _ hb6]
   simp
 · exact ((h6.grown hg h6.size (fun k hk => (h2.lt k hk).1))).setCell hx6 _
theorem range_all {w : World} {b : Nat} {cs : Array Value} {e : TypeId} {fr : Nat × Nat} (h : w.heap[b]? = some (.cells cs e fr)) : w.rangeAt b 0 cs.toList := fun j v hv => by
 rw [Nat.zero_add]
 exact blk_cell h j v (by simpa using hv)
theorem run_load_all {P : Program} {oi : Oper} {a : Act} {ty : TypeId} {x : Operand} (ho : oi.op = .load ty x) {w : World} {b : Nat} {cs : Array Value} {e : TypeId} {fr : Nat × Nat} {de : TypeDesc}
 (hb : w.heap[b]? = some (.cells cs e fr)) (hx : a.eval x = .pointer (some ⟨b, 0, none⟩)) (hu : P.underlying ty = some de) (hd : de.isRow = true) (hi : (P.info? ty).map (·.size) = some cs.size) :
 (execOp a.eval oi).run P w = .ok (.value (.agg cs)) w := by
 have := run_load_at ho (range_all hb) hx hu hd (by simpa using hi)
 simpa using this
theorem put_some {a : Act} {d : Option Tmp} {dd : Tmp} {v : Value} (h : d = some dd) : a.put d v = { a with tmps := a.tmps.setIfInBounds dd v } := by
 subst h
 rfl
theorem step_build1 {P : Program} {o : Oper} {a : Act} {w : World} {K : Act → World → Prop} {Q : Exit → Act → World → Prop} {E : Prop} (e : TypeId) (n : Nat) (hi : ∃ i z, P.info? e = some i ∧ i.zero = some z ∧ i.size = n ∧ z.cells.size = n) (t : TypeId) (x : Operand) (ho : o.op = .buildSlice t 1 #[(0, x)])
 (hu : P.underlying t = some (.slice e)) (h0 : 0 < n ∧ n ≤ 100) {cs : Array Value} (hx : a.eval x = .agg cs) (hcs : cs.size = n) (b : Bool) (hb : b = true) (dd : Tmp) (hdd : o.dst = some dd)
 (h : K { a with tmps := a.tmps.setIfInBounds dd (.slice (some ⟨w.heap.size, 0, none⟩) 1 1) } (w.alloc (.cells cs e))) : if b = true then o.wp P a w K Q else E := by
 subst hb
 rw [← put_some hdd] at h
 rw [if_pos rfl]
 obtain ⟨i, z, h1, h2, h3, h4⟩ := hi
 refine wp_buildSlice t e 1 #[(0, x)] ho cs i z hu h1 h2 (by rw [h3]; omega) (by rw [h3]; omega) ?_ h
 have hf := Great.fill_whole (s := n) h0.1 [Value.agg cs] ((Array.range (1 * n)).map (z.cells[· % z.cells.size]!)) (by intro v hv; simp at hv; subst hv; exact hcs) (by simp)
 rw [h3]
 have e1 : (Array.map (fun (x : Nat × Operand) => (x.1, a.eval x.2)) #[(0, x)]).toList = [(0, Value.agg cs)] := by simp [hx]
 have e2 : (#[(0, x)].map fun (i, x) => (i, a.eval x)).toList = [(0, Value.agg cs)] := e1
 rw [e2]
 simpa [Value.cells] using hf
/-- A struct appended to the points that are made. -/
theorem wp_dm {P : Program} {o : Oper} {a : Act} {K : Act → World → Prop} {Q : Exit → Act → World → Prop} {ty : TypeId} {sz by_ : Nat} (hi : ∃ i z, P.info? ty = some i ∧ i.zero = some z ∧ i.size = sz ∧ i.bytes = by_ ∧ z.cells.size = sz) (hby : by_ ≤ 1000) (hsz : 0 < sz)
 {w wr : World} {T x6 : Nat} {enc : Dot × Sl5 → List Value} {tail : List Value} {ms : List Dot} {v : Value} (h : DM w wr T ty sz enc x6 tail ms v) (hx6 : w.heap.size ≤ x6) (hm : ms.length ≤ 1000) {q : Dot × Sl5} {cx : Array Value} (hcx : cx = (enc q).toArray) (hl : (enc q).length = sz) (hone : ∀ u ∈ enc q, u.oneCell' = true)
 (hq : PtK wr (fun b => v.ownBlock ≠ some b ∧ b ≠ x6) q.1 q.2) (s x : Operand) (t : TypeId)
 (ho : o.op = .call { callee := .builtin .append, args := #[s, x], argTypes := #[t, t] }) (hu : P.underlying t = some (.slice ty)) (hs : a.eval s = v) {gx : Nat} (hx : a.eval x = .slice (some ⟨gx, 0, none⟩) 1 1) (hgx : gx = wr.heap.size)
 (H : ∀ g cap w1, DM w (w1.setCell ⟨x6, 0, none⟩ (.slice (some ⟨g, 0, none⟩) (ms.length + 1) cap)) T ty sz enc x6 tail (ms ++ [q.1]) (.slice (some ⟨g, 0, none⟩) (ms.length + 1) cap) → w1.cell? ⟨x6, 0, none⟩ = some v → w1.frozen? ⟨x6, 0, none⟩ = false → (∀ b, b < wr.heap.size → v.ownBlock ≠ some b → w1.heap[b]? = wr.heap[b]?) → K (a.put o.dst (.slice (some ⟨g, 0, none⟩) (ms.length + 1) cap)) w1) :
 Oper.wp P o a (wr.alloc (.cells cx ty)) K Q := by
 subst hgx hcx
 have h' := h
 obtain ⟨⟨pts, h1, h2, h3⟩, h4, h5, h6⟩ := h'
 obtain ⟨i, z, i1, i2, i3, i4, i5⟩ := hi
 have hg0 : wr.grownBy (wr.alloc (.cells (enc q).toArray ty)) v.ownBlock := World.grownBy_alloc _ _ _
 have hown : (wr.alloc (.cells (enc q).toArray ty)).ownsRow w.heap.size ty sz v ms.length (pts.map enc).flatten := h2.alloc _
 refine wp_append_lies _ s x t ho w.heap.size ty i z sz by_ hu i1 i2 i3 i4 i5 hsz v ms.length _ hs hown ⟨wr.heap.size, 0, none⟩ 1 1 (enc q) hx (by simpa using hl) ?_ hone (by decide) (by simp only [maxLen]; omega) ?_ (by rw [World.size_alloc]; have := h6.size; omega) _ rfl ?_
 · have := World.news_of_block (heap_alloc_new wr (.cells (enc q).toArray ty))
   simpa using this
 · have : (ms.length + 1) * by_ ≤ 1001 * 1000 := Nat.mul_le_mul (by omega) hby
   omega
 · (
 intro g cap w1 hown1 hg1 hvg hglt
 have hgt := grownBy_trans hg0 hg1
 have hlt6 := (Array.getElem?_eq_some_iff.1 h4).1
 have hb6 : w1.heap[x6]? = some (.cells (v :: tail).toArray T (0, 0)) := (hgt.block x6 hlt6 (Ne.symm h5)).trans h4
 refine H g cap w1 (h.grown hx6 hq ⟨pts, h1, h3, hown1⟩ hgt ?_) (blk_cell hb6 0 _ (by simp)) (frozen_blk hb6 0) (fun b hb hv => hgt.block b hb (Ne.symm hv))
 rcases hvg with e | e
 · exact .inl e.symm
 · (
 refine .inr ⟨g, rfl, ?_⟩
 rw [World.size_alloc] at e
 omega))
theorem wp_dmd {P : Program} {o : Oper} {a : Act} {K : Act → World → Prop} {Q : Exit → Act → World → Prop} {ty : TypeId} {sz by_ : Nat} (hi : ∃ i z, P.info? ty = some i ∧ i.zero = some z ∧ i.size = sz ∧ i.bytes = by_ ∧ z.cells.size = sz) (hby : by_ ≤ 1000) (hsz : 0 < sz)
 {w wr : World} {T x6 : Nat} {enc : Dot × Sl5 → List Value} {tail : List Value} {ms : List Dot} {v : Value} (h : DM w wr T ty sz enc x6 tail ms v) (hx6 : w.heap.size ≤ x6) (hm : ms.length ≤ 1000) {q : Dot × Sl5} {cx : Array Value} (hcx : cx = (enc q).toArray) (hl : (enc q).length = sz) (hone : ∀ u ∈ enc q, u.oneCell' = true)
 (hq : PtK wr (fun b => v.ownBlock ≠ some b ∧ b ≠ x6) q.1 q.2) (s x : Operand) (t : TypeId)
 (ho : o.op = .call { callee := .builtin .append, args := #[s, x], argTypes := #[t, t] }) (hu : P.underlying t = some (.slice ty)) (hs : a.eval s = v) {gx : Nat} (hx : a.eval x = .slice (some ⟨gx, 0, none⟩) 1 1) (hgx : gx = wr.heap.size) (dd : Tmp) (hdd : o.dst = some dd)
 (H : ∀ g cap w1, DM w (w1.setCell ⟨x6, 0, none⟩ (.slice (some ⟨g, 0, none⟩) (ms.length + 1) cap)) T ty sz enc x6 tail (ms ++ [q.1]) (.slice (some ⟨g, 0, none⟩) (ms.length + 1) cap) → w1.cell? ⟨x6, 0, none⟩ = some v → w1.frozen? ⟨x6, 0, none⟩ = false → (∀ b, b < wr.heap.size → v.ownBlock ≠ some b → w1.heap[b]? = wr.heap[b]?) → K { a with tmps := a.tmps.setIfInBounds dd (.slice (some ⟨g, 0, none⟩) (ms.length + 1) cap) } w1) :
 Oper.wp P o a (wr.alloc (.cells cx ty)) K Q :=
 wp_dm hi hby hsz h hx6 hm hcx hl hone hq s x t ho hu hs hx hgx (fun g cap w1 a1 a2 a3 a4 => by rw [put_some hdd]; exact H g cap w1 a1 a2 a3 a4)
theorem wpList_dm {P : Program} {ops : Array Oper} {rest : List Oper} {o : Oper} {a : Act} {Q : Exit → Act → World → Prop} {ty : TypeId} {sz by_ : Nat} (hi : ∃ i z, P.info? ty = some i ∧ i.zero = some z ∧ i.size = sz ∧ i.bytes = by_ ∧ z.cells.size = sz) (hby : by_ ≤ 1000) (hsz : 0 < sz)
 {w wr : World} {T x6 : Nat} {enc : Dot × Sl5 → List Value} {tail : List Value} {ms : List Dot} {v : Value} (h : DM w wr T ty sz enc x6 tail ms v) (hx6 : w.heap.size ≤ x6) (hm : ms.length ≤ 1000) {q : Dot × Sl5} {cx : Array Value} (hcx : cx = (enc q).toArray) (hl : (enc q).length = sz) (hone : ∀ u ∈ enc q, u.oneCell' = true)
 (hq : PtK wr (fun b => v.ownBlock ≠ some b ∧ b ≠ x6) q.1 q.2) (hgd : o.guard = none) (s x : Operand) (t : TypeId)
 (ho : o.op = .call { callee := .builtin .append, args := #[s, x], argTypes := #[t, t] }) (hu : P.underlying t = some (.slice ty)) (hs : a.eval s = v) {gx : Nat} (hx : a.eval x = .slice (some ⟨gx, 0, none⟩) 1 1) (hgx : gx = wr.heap.size)
 (H : ∀ g cap w1, DM w (w1.setCell ⟨x6, 0, none⟩ (.slice (some ⟨g, 0, none⟩) (ms.length + 1) cap)) T ty sz enc x6 tail (ms ++ [q.1]) (.slice (some ⟨g, 0, none⟩) (ms.length + 1) cap) → w1.cell? ⟨x6, 0, none⟩ = some v → w1.frozen? ⟨x6, 0, none⟩ = false → (∀ b, b < wr.heap.size → v.ownBlock ≠ some b → w1.heap[b]? = wr.heap[b]?) → wpList P ops Q rest (a.put o.dst (.slice (some ⟨g, 0, none⟩) (ms.length + 1) cap)) w1) :
 wpList P ops Q (o :: rest) a (wr.alloc (.cells cx ty)) :=
 wpList_plain hgd fun _ hK => wp_dm hi hby hsz h hx6 hm hcx hl hone hq s x t ho hu hs hx hgx (fun g cap w1 a1 a2 a3 a4 => hK _ _ (H g cap w1 a1 a2 a3 a4))
theorem wpIf {P : Program} {o : Oper} {a : Act} {w : World} {K : Act → World → Prop} {Q : Exit → Act → World → Prop} {E : Prop} (b : Bool) (hb : b = true) (h : o.wp P a w K Q) : if b = true then o.wp P a w K Q else E := by
 subst hb
 exact h
theorem ptk_dp {w wr : World} {ok : Nat → Prop} {fl : Bool} {d : Dot} {s1 : Sl} (h : SetNew w wr s1 (sortK d.attrs)) (hok : ∀ b, w.heap.size ≤ b → ok b) : PtK wr ok (mkDp fl d) ⟨s1, nilS, nilS, nilS, nilS⟩ := by
 refine ⟨⟨h.set, rd_none _ _ _, rd_none _ _ _, rd_none _ _ _, rd_none _ _ _⟩, fun t ht b o sp e hn => ?_⟩
 simp only [List.mem_cons, List.not_mem_nil, or_false] at ht
 rcases ht with rfl | rfl | rfl | rfl | rfl
 · exact hok b (h.new b o sp e)
 all_goals cases e
theorem step_store1 {P : Program} {op : Oper} {a : Act} {w : World} {K : Act → World → Prop} {Q : Exit → Act → World → Prop} (ty : TypeId) (x y : Operand) (ho : op.op = .store ty x y) (hd : op.dst = none)
 {b o n c : Nat} {A : Option Addr} {u : Value} (hx : a.eval x = .pointer (some ⟨b, o, none⟩)) (hy : a.eval y = .slice A n c) (hi : (P.info? ty).map (·.size) = some 1) (hc : w.cell? ⟨b, o, none⟩ = some u) (hf : w.frozen? ⟨b, o, none⟩ = false)
 (bb : Bool) (hb : bb = true) (h : K a (w.setCell ⟨b, o, none⟩ (.slice A n c))) : if bb = true then op.wp P a w K Q else K (a.put op.dst undef) w := by
 subst hb
 rw [if_pos rfl]
 obtain ⟨i, hi1, hi2⟩ : ∃ i, P.info? ty = some i ∧ i.size = 1 := by
  cases hq : P.info? ty with
  | none => rw [hq] at hi; simp at hi
  | some i => rw [hq] at hi; exact ⟨i, rfl, by simpa using hi⟩
 have hsv : (storeVar ty ⟨b, o, none⟩ (.slice A n c)).run P w = .ok () (w.setCell ⟨b, o, none⟩ (.slice A n c)) := by
  unfold storeVar
  simp [sizeOf, typeInfo, hi1, hi2, Value.cells, go_sem, hc, hf]
 unfold Oper.wp execOp
 simp only [ho, hx, hy, Instr.storeAt, Instr.sureAddr, Sem.run_bind, Sem.run_pure, Result.andThen_ok, hsv]
 unfold Oper.upon
 simp only [hd]
 exact h
theorem infoS121 : (Tryz.prog.info? 121).map (·.size) = some 1 := by kernel_rfl
theorem infoS125 : (Tryz.prog.info? 125).map (·.size) = some 1 := by kernel_rfl
theorem infoS158 : (Tryz.prog.info? 158).map (·.size) = some 1 := by kernel_rfl
set_option maxRecDepth 100000 in
set_option maxHeartbeats 4000000 in
theorem c41_0 (fb dl mo : Bool) (A : Option Addr) (n c : Nat) (l : List (Dot × Sl5)) (w : World) (h : DotsR w w.heap.size A n c l) (hok : ∀ x ∈ l, AttrsOk x.1.attrs) (hn : n ≤ 900) (tp : Int) (htp : tp = if dl then 2 else 1) :
 Calls Tryz.prog 41 #[.agg #[.int .u8 0, .bool fb, .bool dl, .bool mo, .slice A n c], .func (.func 42) #[] #[]] w fun e w' => ∃ (A' : Option Addr) (c' : Nat) (pts : List (Dot × Sl5)), e = .returned (.iface 131 (.agg #[.slice A' n c', .int .u8 tp, .bool mo])) ∧ pts.map (·.1) = l.map (fun x => mkDp false x.1) ∧ Rd w' w'.heap.size 6 A' n c' (pts.map dpI) ∧ (∀ q ∈ pts, PtR w' w'.heap.size q.1 q.2) ∧ Below w.heap.size w w' := by
 have hlen := h.rd.numlen
 have H := Lib.hid h
 have HOK := Lib.hid hok
 have HLEN := Lib.hid hlen
 have HTP := Lib.hid htp
 clear h hok hlen htp
 obtain ⟨W0, hW0⟩ : ∃ W0, W0 = w.alloc (.cells #[.int .u8 0, .bool fb, .bool dl, .bool mo, .slice A n c] 30) := ⟨_, rfl⟩
 have hb : Below w.heap.size w W0 := bq hW0
 have hs0 : W0.heap.size = w.heap.size + 1 := by rw [hW0]; simp
 obtain ⟨x6, hx6d⟩ : ∃ x, x = W0.heap.size := ⟨_, rfl⟩
 have y0 : W0.cell? ⟨w.heap.size, 0, none⟩ = some (.int .u8 0) := by rw [hW0]; simp [go_sem]
 have y2 : W0.cell? ⟨w.heap.size, 2, none⟩ = some (.bool dl) := by rw [hW0]; simp [go_sem]
 have y3 : W0.cell? ⟨w.heap.size, 3, none⟩ = some (.bool mo) := by rw [hW0]; simp [go_sem]
 have y4 : W0.cell? ⟨w.heap.size, 4, none⟩ = some (.slice A n c) := by rw [hW0]; simp [go_sem]
 obtain ⟨W1, hW1⟩ : ∃ W1, W1 = W0.alloc (.cells #[.slice none 0 0, .int .u8 tp, .bool mo] 131) := ⟨_, rfl⟩
 have hb1 : Below W0.heap.size W0 W1 := bq hW1
 have hz6 : W1.heap[x6]? = some (.cells #[.slice none 0 0, .int .u8 tp, .bool mo] 131 (0, 0)) := by rw [hW1, hx6d]; exact heap_alloc_new W0 _
 have y4' := cellk y4 hb1
 have hdm0 : DM w W1 131 170 6 dpI x6 [.int .u8 tp, .bool mo] [] (.slice none 0 0) := ⟨⟨[], rfl, World.ownsRow_nil _ _ _ _, by simp⟩, by rw [hz6], by simp [Value.ownBlock], below_then hb hb.size hb1⟩
 have HDM0 := Lib.hid hdm0
 have HW := Lib.hid hW0
 have HW1 := Lib.hid hW1
 have HX6 := Lib.hid hx6d
 have HS0 := Lib.hid hs0
 have hx6 : w.heap.size ≤ x6 := by omega
 clear hW0 hW1 hb hb1 hz6 hdm0 hx6d hs0
 go_enter Tryz.func41, Tryz.ntmps41
 go_upto_region 2 with fail
 rw [← HW.out]
 go_upto_if 25 with fail
 go_cut [5] from 24 (fun s5 wx => s5 = .int .u8 tp ∧ wx = W0)
 case first => (
 have htp := HTP.out
 cases dl
 all_goals
  simp at htp
  subst htp
  go_wp2_with fail
  go_meet
  exact ⟨rfl, rfl⟩)
 case rest => (
 obtain ⟨rfl, rfl⟩ := hcut
 obtain ⟨W0, rfl⟩ : ∃ W0 : World, W0 = wc := ⟨_, rfl⟩
 as_aux_lemma => (
 go_upto_region 8 with ((with_reducible apply arm_store_new 3 infoA131); rfl; simp; rfl; rfl; rfl; rfl)
 rw [← HW1.out, ← HX6.out]
 try simp only [Act.put]
 go_upto_region 9 with fail
 as_aux_lemma => (
 go_loopw [8, 38] (fun _ i wr => ∃ (k : Nat) (v : Value), k ≤ n ∧ i = .int .i64 k ∧ DM w wr 131 170 6 dpI x6 [.int .u8 tp, .bool mo] ((l.take k).map fun x => mkDp false x.1) v) (fun _ i _ => n - (intOf i).toNat)
 case atStart => exact ⟨0, _, Nat.zero_le _, rfl, HDM0.out⟩
 case round => (
 obtain ⟨k, v, hk, rfl, hdm⟩ := hrel
 obtain ⟨wo, rfl⟩ : ∃ wo : World, wo = wr := ⟨_, rfl⟩
 have hml : ((l.take k).map fun x => mkDp false x.1).length = k := by rw [List.length_map, List.length_take]; have := HLEN.out; omega
 obtain ⟨vA, vc, hv⟩ := hdm.slice
 rw [hml] at hv
 subst hv
 have HDM := Lib.hid hdm
 have HML := Lib.hid hml
 have HOW : Hid (∀ g, (Value.slice vA k vc).ownBlock = some g → w.heap.size ≤ g ∧ g < wo.heap.size) := Lib.hid (by obtain ⟨pts, _, h2, _⟩ := hdm.ex; exact h2.lt)
 have hx6l : x6 < wo.heap.size := (Array.getElem?_eq_some_iff.1 hdm.blk).1
 have hblk := hdm.blk
 clear hdm hml
 by_cases hlt : k < n
 · (
 obtain ⟨ba, oa, r, rfl, hlta, hx, _, ca⟩ := (H.out.rd.below HDM.out.bel).at_ hlt
 rw [List.getElem?_map, Option.map_eq_some_iff] at hx
 obtain ⟨⟨d, s⟩, hx, rfl⟩ := hx
 have hxm := List.mem_of_getElem? hx
 obtain ⟨cx, hcx⟩ : ∃ cx, cx = (dotCells d s).toArray := ⟨_, rfl⟩
 have sx : cx.size = 18 := by rw [hcx]; rfl
 have ox : cx.toList.all (·.oneCell') = true := by rw [hcx]; rfl
 have ca2 : wo.rangeAt ba (oa + k * 18) cx.toList := by rw [hcx]; exact ca
 obtain ⟨x8, hx8d⟩ : ∃ x, x = wo.heap.size := ⟨_, rfl⟩
 obtain ⟨W2, hW2⟩ : ∃ W2, W2 = wo.alloc (.cells cx 63) := ⟨_, rfl⟩
 have hbn : Below wo.heap.size wo W2 := bq hW2
 have hbW : Below wo.heap.size wo W2.drew := below_drew hbn
 have z8 : W2.drew.heap[x8]? = some (.cells cx 63 (0, 0)) := by rw [hx8d, hW2]; exact heap_alloc_new wo _
 have hx8 : x8 < W2.drew.heap.size := (Array.getElem?_eq_some_iff.1 z8).1
 have c6 : W2.drew.cell? ⟨x6, 0, none⟩ = some (.slice vA k vc) := cellk (blk_cell hblk 0 _ (by simp)) hbW
 have C := Lib.hid (c69 d s W2.drew (((H.out.all _ hxm).below (HDM.out.bel.trans (hbW.mono HDM.out.bel.size))).more (Nat.le_trans HDM.out.bel.size hbW.size)) (HOK.out _ hxm))
 rw [← hcx] at C
 have HTK : Hid ((l.take (k + 1)).map (fun x => mkDp false x.1) = ((l.take k).map fun x => mkDp false x.1) ++ [mkDp false d]) := Lib.hid (by
  obtain ⟨hk', he⟩ := List.getElem?_eq_some_iff.1 hx
  rw [List.take_succ_eq_append_getElem hk', List.map_append, he]; rfl)
 have i0 : (0 : Int) ≤ (k : Int) := by omega
 have i1 : (k : Int) < (n : Int) := by omega
 have hsW : wo.heap.size ≤ W2.drew.heap.size := hbW.size
 have HW2 := Lib.hid hW2
 have HX8 := Lib.hid hx8d
 clear hx hxm hcx ca hbn hW2 hblk
 go_upto_region 11 with (first
  | ((with_reducible refine arm_load ca2 ?_ 18 info63 Tryz.underlying63 ?_ ?_ ?_); rfl; rfl; exact sx)
  | ((with_reducible apply arm_store_new 18 info63); rfl; simp; rfl; rfl; assumption; assumption))
 rw [← HW2.out]
 rw [← HX8.out]
 try simp only [Act.put]
 as_aux_lemma => (
 have hml := HML.out
 refine wp_region_held_drew (S := fun w' => w'.heap[x8]? = some (.cells cx 63 (0, 0))) (by kernel_rfl) z8 (fun hHeld => ?_)
 refine tk 0 42 (v := .pointer (some ⟨x6, 0, none⟩)) (a' := ?_) rfl rfl ?_ ?_ rfl ?_
 rotate_left 1
 · intro w2 hSw; go_simp
 · simp only [sI, s0, sS]; exact rfl
 refine tk 2 44 (v := .agg cx) (a' := ?_) rfl rfl ?_ ?_ rfl ?_
 rotate_left 1
 · intro w2 hSw; exact run_load_all rfl hSw rfl Tryz.underlying63 rfl (by rw [sx]; exact info63)
 · simp only [sI, s0, sS]; exact rfl
 refine tk 3 45 (v := .func (.func 42) #[] #[]) (a' := ?_) rfl rfl ?_ ?_ rfl ?_
 rotate_left 1
 · intro w2 hSw; go_simp
 · simp only [sI, s0, sS]; exact rfl
 refine wpAnyH_ready (rs := [1, 4]) (by kernel_rfl) (by simp) ?_
 refine AllReadyH.cons (o := _) rfl (fun K hK => ?_) (AllReadyH.cons (o := _) rfl (fun K hK => ?_) AllReadyH.nil)
 · as_aux_lemma => (
 go_simp
 refine hK.out _ _ hHeld (fun hHeld => ?_)
 clear hK K
 try dsimp only [Act.put]
 try simp only [Act.put, sI, s0, sS]
 refine wpAnyH_ready (rs := [4]) (by kernel_rfl) (by simp) ?_
 refine ar1 rfl (fun K hK => ?_)
 go_simp
 refine C.out.mono ?_
 rintro e w1 ⟨s1, rfl, hset, hb1⟩
 try dsimp only
 refine hK.out _ _ ((hb1.block _ (Array.getElem?_eq_some_iff.1 hHeld).1).trans hHeld) (fun hHeld => ?_)
 clear hK K
 have c6 : w1.cell? ⟨x6, 0, none⟩ = some (.slice vA k vc) := cellk c6 hb1
 try dsimp only [Act.put]
 try simp only [Act.put, sI, s0, sS]
 refine wpAnyH_ready (rs := [5]) (by kernel_rfl) (by simp) ?_
 refine ar1 rfl (fun K hK => ?_)
 refine step_build1 170 6 (infoD_four infoD170) 121 _ rfl Tryz.underlying121 (by decide) (cs := (dpI (mkDp false d, ⟨s1, nilS, nilS, nilS, nilS⟩)).toArray) rfl rfl _ (by kernel_rfl) 47 rfl ?_
 refine hK.out _ _ ((Below.heap_alloc _ _ _ (Array.getElem?_eq_some_iff.1 hHeld).1).trans hHeld) (fun hHeld => ?_)
 clear hK K
 have c6 : (w1.alloc (.cells (dpI (mkDp false d, ⟨s1, nilS, nilS, nilS, nilS⟩)).toArray 170)).cell? ⟨x6, 0, none⟩ = some (.slice vA k vc) := cellk c6 ((Below.refl _ _).alloc (Nat.le_refl _) _)
 try dsimp only [Act.put]
 try simp only [Act.put, sI, s0, sS]
 refine wpAnyH_ready (rs := [6]) (by kernel_rfl) (by simp) ?_
 refine ar1 rfl (fun K hK => ?_)
 have hq0 : PtK w1 (fun b => (Value.slice vA k vc).ownBlock ≠ some b ∧ b ≠ x6) (mkDp false d) ⟨s1, nilS, nilS, nilS, nilS⟩ := ptk_dp hset (fun b hb => ⟨fun e => by have := HOW.out b e; omega, by omega⟩)
 refine wpIf _ (by kernel_rfl) ?_
 refine wp_dmd infoD170 (by decide) (by decide) ((HDM.out.below hbW).below hb1) hx6 (by rw [hml]; omega) rfl (dpI_len _) (dpI_one _) hq0 _ _ 121 rfl Tryz.underlying121 rfl rfl rfl 48 rfl ?_
 intro g cap w3 hdm3 hc3 hf3 hk3
 rw [hml] at hdm3 ⊢
 refine hK.out _ _ ((hk3 x8 (by have := hb1.size; omega) (fun e => by have := HOW.out x8 e; omega)).trans ((hb1.block _ hx8).trans z8)) (fun hHeld => ?_)
 clear hK K
 try dsimp only [Act.put]
 try simp only [Act.put, sI, s0, sS]
 refine tk 7 49 (v := .pointer (some ⟨x6, 0, none⟩)) (a' := ?_) rfl rfl ?_ ?_ rfl ?_
 rotate_left 1
 · intro w2 hSw; go_simp
 · simp only [sI, s0, sS]; exact rfl
 refine wpAnyH_ready (rs := [8]) (by kernel_rfl) (by simp) ?_
 refine ar1 rfl (fun K hK => ?_)
 refine step_store1 121 (.tmp 49) (.tmp 48) rfl rfl rfl rfl infoS121 hc3 hf3 _ (by kernel_rfl) ?_
 refine hK.out _ _ ((heap_setCell_other _ ⟨x6, 0, none⟩ x8 _ (by show x8 ≠ x6; omega)).trans hHeld) (fun hHeld2 => ?_)
 clear hK K
 refine wpAnyH_done (by kernel_rfl) ?_ _
 go_wp2_with fail
 go_roundw
 case rel => exact ⟨k + 1, _, by omega, by go_num, by rw [HTK.out]; exact hdm3⟩
 case measure => simp [intOf]; omega)
 · as_aux_lemma => (
 go_simp
 refine C.out.mono ?_
 rintro e w1 ⟨s1, rfl, hset, hb1⟩
 try dsimp only
 refine hK.out _ _ ((hb1.block _ (Array.getElem?_eq_some_iff.1 hHeld).1).trans hHeld) (fun hHeld => ?_)
 clear hK K
 have c6 : w1.cell? ⟨x6, 0, none⟩ = some (.slice vA k vc) := cellk c6 hb1
 try dsimp only [Act.put]
 try simp only [Act.put, sI, s0, sS]
 refine wpAnyH_ready (rs := [1, 5]) (by kernel_rfl) (by simp) ?_
 refine AllReadyH.cons (o := _) rfl (fun K hK => ?_) (AllReadyH.cons (o := _) rfl (fun K hK => ?_) AllReadyH.nil)
 · as_aux_lemma => (
 go_simp
 refine hK.out _ _ hHeld (fun hHeld => ?_)
 clear hK K
 try dsimp only [Act.put]
 try simp only [Act.put, sI, s0, sS]
 refine wpAnyH_ready (rs := [5]) (by kernel_rfl) (by simp) ?_
 refine ar1 rfl (fun K hK => ?_)
 refine step_build1 170 6 (infoD_four infoD170) 121 _ rfl Tryz.underlying121 (by decide) (cs := (dpI (mkDp false d, ⟨s1, nilS, nilS, nilS, nilS⟩)).toArray) rfl rfl _ (by kernel_rfl) 47 rfl ?_
 refine hK.out _ _ ((Below.heap_alloc _ _ _ (Array.getElem?_eq_some_iff.1 hHeld).1).trans hHeld) (fun hHeld => ?_)
 clear hK K
 have c6 : (w1.alloc (.cells (dpI (mkDp false d, ⟨s1, nilS, nilS, nilS, nilS⟩)).toArray 170)).cell? ⟨x6, 0, none⟩ = some (.slice vA k vc) := cellk c6 ((Below.refl _ _).alloc (Nat.le_refl _) _)
 try dsimp only [Act.put]
 try simp only [Act.put, sI, s0, sS]
 refine wpAnyH_ready (rs := [6]) (by kernel_rfl) (by simp) ?_
 refine ar1 rfl (fun K hK => ?_)
 have hq0 : PtK w1 (fun b => (Value.slice vA k vc).ownBlock ≠ some b ∧ b ≠ x6) (mkDp false d) ⟨s1, nilS, nilS, nilS, nilS⟩ := ptk_dp hset (fun b hb => ⟨fun e => by have := HOW.out b e; omega, by omega⟩)
 refine wpIf _ (by kernel_rfl) ?_
 refine wp_dmd infoD170 (by decide) (by decide) ((HDM.out.below hbW).below hb1) hx6 (by rw [hml]; omega) rfl (dpI_len _) (dpI_one _) hq0 _ _ 121 rfl Tryz.underlying121 rfl rfl rfl 48 rfl ?_
 intro g cap w3 hdm3 hc3 hf3 hk3
 rw [hml] at hdm3 ⊢
 refine hK.out _ _ ((hk3 x8 (by have := hb1.size; omega) (fun e => by have := HOW.out x8 e; omega)).trans ((hb1.block _ hx8).trans z8)) (fun hHeld => ?_)
 clear hK K
 try dsimp only [Act.put]
 try simp only [Act.put, sI, s0, sS]
 refine tk 7 49 (v := .pointer (some ⟨x6, 0, none⟩)) (a' := ?_) rfl rfl ?_ ?_ rfl ?_
 rotate_left 1
 · intro w2 hSw; go_simp
 · simp only [sI, s0, sS]; exact rfl
 refine wpAnyH_ready (rs := [8]) (by kernel_rfl) (by simp) ?_
 refine ar1 rfl (fun K hK => ?_)
 refine step_store1 121 (.tmp 49) (.tmp 48) rfl rfl rfl rfl infoS121 hc3 hf3 _ (by kernel_rfl) ?_
 refine hK.out _ _ ((heap_setCell_other _ ⟨x6, 0, none⟩ x8 _ (by show x8 ≠ x6; omega)).trans hHeld) (fun hHeld2 => ?_)
 clear hK K
 refine wpAnyH_done (by kernel_rfl) ?_ _
 go_wp2_with fail
 go_roundw
 case rel => exact ⟨k + 1, _, by omega, by go_num, by rw [HTK.out]; exact hdm3⟩
 case measure => simp [intOf]; omega)
 · as_aux_lemma => (
 refine step_build1 170 6 (infoD_four infoD170) 121 _ rfl Tryz.underlying121 (by decide) (cs := (dpI (mkDp false d, ⟨s1, nilS, nilS, nilS, nilS⟩)).toArray) rfl rfl _ (by kernel_rfl) 47 rfl ?_
 refine hK.out _ _ ((Below.heap_alloc _ _ _ (Array.getElem?_eq_some_iff.1 hHeld).1).trans hHeld) (fun hHeld => ?_)
 clear hK K
 have c6 : (w1.alloc (.cells (dpI (mkDp false d, ⟨s1, nilS, nilS, nilS, nilS⟩)).toArray 170)).cell? ⟨x6, 0, none⟩ = some (.slice vA k vc) := cellk c6 ((Below.refl _ _).alloc (Nat.le_refl _) _)
 try dsimp only [Act.put]
 try simp only [Act.put, sI, s0, sS]
 refine wpAnyH_ready (rs := [1]) (by kernel_rfl) (by simp) ?_
 refine ar1 rfl (fun K hK => ?_)
 go_simp
 refine hK.out _ _ hHeld (fun hHeld => ?_)
 clear hK K
 try dsimp only [Act.put]
 try simp only [Act.put, sI, s0, sS]
 refine wpAnyH_ready (rs := [6]) (by kernel_rfl) (by simp) ?_
 refine ar1 rfl (fun K hK => ?_)
 have hq0 : PtK w1 (fun b => (Value.slice vA k vc).ownBlock ≠ some b ∧ b ≠ x6) (mkDp false d) ⟨s1, nilS, nilS, nilS, nilS⟩ := ptk_dp hset (fun b hb => ⟨fun e => by have := HOW.out b e; omega, by omega⟩)
 refine wpIf _ (by kernel_rfl) ?_
 refine wp_dmd infoD170 (by decide) (by decide) ((HDM.out.below hbW).below hb1) hx6 (by rw [hml]; omega) rfl (dpI_len _) (dpI_one _) hq0 _ _ 121 rfl Tryz.underlying121 rfl rfl rfl 48 rfl ?_
 intro g cap w3 hdm3 hc3 hf3 hk3
 rw [hml] at hdm3 ⊢
 refine hK.out _ _ ((hk3 x8 (by have := hb1.size; omega) (fun e => by have := HOW.out x8 e; omega)).trans ((hb1.block _ hx8).trans z8)) (fun hHeld => ?_)
 clear hK K
 try dsimp only [Act.put]
 try simp only [Act.put, sI, s0, sS]
 refine tk 7 49 (v := .pointer (some ⟨x6, 0, none⟩)) (a' := ?_) rfl rfl ?_ ?_ rfl ?_
 rotate_left 1
 · intro w2 hSw; go_simp
 · simp only [sI, s0, sS]; exact rfl
 refine wpAnyH_ready (rs := [8]) (by kernel_rfl) (by simp) ?_
 refine ar1 rfl (fun K hK => ?_)
 refine step_store1 121 (.tmp 49) (.tmp 48) rfl rfl rfl rfl infoS121 hc3 hf3 _ (by kernel_rfl) ?_
 refine hK.out _ _ ((heap_setCell_other _ ⟨x6, 0, none⟩ x8 _ (by show x8 ≠ x6; omega)).trans hHeld) (fun hHeld2 => ?_)
 clear hK K
 refine wpAnyH_done (by kernel_rfl) ?_ _
 go_wp2_with fail
 go_roundw
 case rel => exact ⟨k + 1, _, by omega, by go_num, by rw [HTK.out]; exact hdm3⟩
 case measure => simp [intOf]; omega))))
 · (
 have hkn : k = n := by omega
 have htk : l.take k = l := List.take_of_length_le (by have := HLEN.out; omega)
 have f9 : ¬ (k : Int) < (n : Int) := by omega
 rw [htk] at HDM
 have HKN := Lib.hid hkn
 clear hkn htk
 as_aux_lemma => (
 go_wp2_with ((with_reducible refine arm_load_all 3 infoA131 Tryz.underlying131 hblk ?_ ?_ ?_ ?_); rfl; rfl; rfl)
 go_ret
 obtain ⟨pts, h1, h2, h3⟩ := HDM.out.ex
 have hkn := HKN.out
 subst hkn
 obtain ⟨A', c', hv, hrd, _⟩ := rd_of_own h2 (fun r hr => by obtain ⟨q, _, rfl⟩ := List.mem_map.1 hr; exact dpI_len q) (by rw [List.length_map]; have := congrArg List.length h1; simpa using this) (by rw [List.length_map]; have := HLEN.out; omega)
 injection hv with e1 e2 e3
 subst e1 e3
 have hll : (List.map (fun x => mkDp false x.1) l).length = k := by rw [List.length_map]; exact HLEN.out
 rw [hll] at hrd
 first
  | exact ⟨vA, vc, pts, rfl, h1, hrd, fun q hq => (h3 q hq).pt, HDM.out.bel⟩
  | exact ⟨vA, vc, rfl, pts, h1, hrd, fun q hq => (h3 q hq).pt, HDM.out.bel⟩
  | exact ⟨vA, vc, rfl, pts, h1, hrd, fun a b hq => (h3 (a, b) hq).pt, HDM.out.bel⟩
  | exact ⟨vA, vc, pts, rfl, h1, hrd, fun a b hq => (h3 (a, b) hq).pt, HDM.out.bel⟩))))))
set_option maxRecDepth 100000 in
set_option maxHeartbeats 4000000 in
theorem c41_2 (fb dl mo : Bool) (A : Option Addr) (n c : Nat) (l : List (Dot × Sl5)) (w : World) (h : DotsR w w.heap.size A n c l) (hok : ∀ x ∈ l, AttrsOk x.1.attrs) (hn : n ≤ 900) (tp : Int) (htp : tp = if dl then 2 else 1) :
 Calls Tryz.prog 41 #[.agg #[.int .u8 2, .bool fb, .bool dl, .bool mo, .slice A n c], .func (.func 42) #[] #[]] w fun e w' => ∃ (A' : Option Addr) (c' : Nat) (pts : List (Dot × Sl5)), e = .returned (.iface 123 (.agg #[.slice A' n c'])) ∧ pts.map (·.1) = l.map (fun x => mkDp false x.1) ∧ Rd w' w'.heap.size 6 A' n c' (pts.map dpI) ∧ (∀ q ∈ pts, PtR w' w'.heap.size q.1 q.2) ∧ Below w.heap.size w w' := by
 have hlen := h.rd.numlen
 have H := Lib.hid h
 have HOK := Lib.hid hok
 have HLEN := Lib.hid hlen
 have HTP := Lib.hid htp
 clear h hok hlen htp
 obtain ⟨W0, hW0⟩ : ∃ W0, W0 = w.alloc (.cells #[.int .u8 2, .bool fb, .bool dl, .bool mo, .slice A n c] 30) := ⟨_, rfl⟩
 have hb : Below w.heap.size w W0 := bq hW0
 have hs0 : W0.heap.size = w.heap.size + 1 := by rw [hW0]; simp
 obtain ⟨x6, hx6d⟩ : ∃ x, x = W0.heap.size := ⟨_, rfl⟩
 have y0 : W0.cell? ⟨w.heap.size, 0, none⟩ = some (.int .u8 2) := by rw [hW0]; simp [go_sem]
 have y2 : W0.cell? ⟨w.heap.size, 2, none⟩ = some (.bool dl) := by rw [hW0]; simp [go_sem]
 have y3 : W0.cell? ⟨w.heap.size, 3, none⟩ = some (.bool mo) := by rw [hW0]; simp [go_sem]
 have y4 : W0.cell? ⟨w.heap.size, 4, none⟩ = some (.slice A n c) := by rw [hW0]; simp [go_sem]
 obtain ⟨W1, hW1⟩ : ∃ W1, W1 = W0.alloc (.cells #[.slice none 0 0] 123) := ⟨_, rfl⟩
 have hb1 : Below W0.heap.size W0 W1 := bq hW1
 have hz6 : W1.heap[x6]? = some (.cells #[.slice none 0 0] 123 (0, 0)) := by rw [hW1, hx6d]; exact heap_alloc_new W0 _
 have y4' := cellk y4 hb1
 have hdm0 : DM w W1 123 170 6 dpI x6 [] [] (.slice none 0 0) := ⟨⟨[], rfl, World.ownsRow_nil _ _ _ _, by simp⟩, by rw [hz6], by simp [Value.ownBlock], below_then hb hb.size hb1⟩
 have HDM0 := Lib.hid hdm0
 have HW := Lib.hid hW0
 have HW1 := Lib.hid hW1
 have HX6 := Lib.hid hx6d
 have HS0 := Lib.hid hs0
 have hx6 : w.heap.size ≤ x6 := by omega
 clear hW0 hW1 hb hb1 hz6 hdm0 hx6d hs0
 go_enter Tryz.func41, Tryz.ntmps41
 go_upto_region 2 with fail
 rw [← HW.out]
 go_upto_if 25 with fail
 go_cut [5] from 24 (fun s5 wx => s5 = .int .u8 tp ∧ wx = W0)
 case first => (
 have htp := HTP.out
 cases dl
 all_goals
  simp at htp
  subst htp
  go_wp2_with fail
  go_meet
  exact ⟨rfl, rfl⟩)
 case rest => (
 obtain ⟨rfl, rfl⟩ := hcut
 obtain ⟨W0, rfl⟩ : ∃ W0 : World, W0 = wc := ⟨_, rfl⟩
 as_aux_lemma => (
 go_upto_region 17 with ((with_reducible apply arm_store_new 1 infoA123); rfl; simp; rfl; rfl; rfl; rfl)
 rw [← HW1.out, ← HX6.out]
 try simp only [Act.put]
 go_upto_region 18 with fail
 as_aux_lemma => (
 go_loopw [11, 59] (fun _ i wr => ∃ (k : Nat) (v : Value), k ≤ n ∧ i = .int .i64 k ∧ DM w wr 123 170 6 dpI x6 [] ((l.take k).map fun x => mkDp false x.1) v) (fun _ i _ => n - (intOf i).toNat)
 case atStart => exact ⟨0, _, Nat.zero_le _, rfl, HDM0.out⟩
 case round => (
 obtain ⟨k, v, hk, rfl, hdm⟩ := hrel
 obtain ⟨wo, rfl⟩ : ∃ wo : World, wo = wr := ⟨_, rfl⟩
 have hml : ((l.take k).map fun x => mkDp false x.1).length = k := by rw [List.length_map, List.length_take]; have := HLEN.out; omega
 obtain ⟨vA, vc, hv⟩ := hdm.slice
 rw [hml] at hv
 subst hv
 have HDM := Lib.hid hdm
 have HML := Lib.hid hml
 have HOW : Hid (∀ g, (Value.slice vA k vc).ownBlock = some g → w.heap.size ≤ g ∧ g < wo.heap.size) := Lib.hid (by obtain ⟨pts, _, h2, _⟩ := hdm.ex; exact h2.lt)
 have hx6l : x6 < wo.heap.size := (Array.getElem?_eq_some_iff.1 hdm.blk).1
 have hblk := hdm.blk
 clear hdm hml
 by_cases hlt : k < n
 · (
 obtain ⟨ba, oa, r, rfl, hlta, hx, _, ca⟩ := (H.out.rd.below HDM.out.bel).at_ hlt
 rw [List.getElem?_map, Option.map_eq_some_iff] at hx
 obtain ⟨⟨d, s⟩, hx, rfl⟩ := hx
 have hxm := List.mem_of_getElem? hx
 obtain ⟨cx, hcx⟩ : ∃ cx, cx = (dotCells d s).toArray := ⟨_, rfl⟩
 have sx : cx.size = 18 := by rw [hcx]; rfl
 have ox : cx.toList.all (·.oneCell') = true := by rw [hcx]; rfl
 have ca2 : wo.rangeAt ba (oa + k * 18) cx.toList := by rw [hcx]; exact ca
 obtain ⟨x8, hx8d⟩ : ∃ x, x = wo.heap.size := ⟨_, rfl⟩
 obtain ⟨W2, hW2⟩ : ∃ W2, W2 = wo.alloc (.cells cx 63) := ⟨_, rfl⟩
 have hbn : Below wo.heap.size wo W2 := bq hW2
 have hbW : Below wo.heap.size wo W2.drew := below_drew hbn
 have z8 : W2.drew.heap[x8]? = some (.cells cx 63 (0, 0)) := by rw [hx8d, hW2]; exact heap_alloc_new wo _
 have hx8 : x8 < W2.drew.heap.size := (Array.getElem?_eq_some_iff.1 z8).1
 have c6 : W2.drew.cell? ⟨x6, 0, none⟩ = some (.slice vA k vc) := cellk (blk_cell hblk 0 _ (by simp)) hbW
 have C := Lib.hid (c69 d s W2.drew (((H.out.all _ hxm).below (HDM.out.bel.trans (hbW.mono HDM.out.bel.size))).more (Nat.le_trans HDM.out.bel.size hbW.size)) (HOK.out _ hxm))
 rw [← hcx] at C
 have HTK : Hid ((l.take (k + 1)).map (fun x => mkDp false x.1) = ((l.take k).map fun x => mkDp false x.1) ++ [mkDp false d]) := Lib.hid (by
  obtain ⟨hk', he⟩ := List.getElem?_eq_some_iff.1 hx
  rw [List.take_succ_eq_append_getElem hk', List.map_append, he]; rfl)
 have i0 : (0 : Int) ≤ (k : Int) := by omega
 have i1 : (k : Int) < (n : Int) := by omega
 have hsW : wo.heap.size ≤ W2.drew.heap.size := hbW.size
 have HW2 := Lib.hid hW2
 have HX8 := Lib.hid hx8d
 clear hx hxm hcx ca hbn hW2 hblk
 go_upto_region 20 with (first
  | ((with_reducible refine arm_load ca2 ?_ 18 info63 Tryz.underlying63 ?_ ?_ ?_); rfl; rfl; exact sx)
  | ((with_reducible apply arm_store_new 18 info63); rfl; simp; rfl; rfl; assumption; assumption))
 rw [← HW2.out]
 rw [← HX8.out]
 try simp only [Act.put]
 as_aux_lemma => (
 have hml := HML.out
 refine wp_region_held_drew (S := fun w' => w'.heap[x8]? = some (.cells cx 63 (0, 0))) (by kernel_rfl) z8 (fun hHeld => ?_)
 refine tk 0 63 (v := .pointer (some ⟨x6, 0, none⟩)) (a' := ?_) rfl rfl ?_ ?_ rfl ?_
 rotate_left 1
 · intro w2 hSw; go_simp
 · simp only [sI, s0, sS]; exact rfl
 refine tk 2 65 (v := .agg cx) (a' := ?_) rfl rfl ?_ ?_ rfl ?_
 rotate_left 1
 · intro w2 hSw; exact run_load_all rfl hSw rfl Tryz.underlying63 rfl (by rw [sx]; exact info63)
 · simp only [sI, s0, sS]; exact rfl
 refine tk 3 66 (v := .func (.func 42) #[] #[]) (a' := ?_) rfl rfl ?_ ?_ rfl ?_
 rotate_left 1
 · intro w2 hSw; go_simp
 · simp only [sI, s0, sS]; exact rfl
 refine wpAnyH_ready (rs := [1, 4]) (by kernel_rfl) (by simp) ?_
 refine AllReadyH.cons (o := _) rfl (fun K hK => ?_) (AllReadyH.cons (o := _) rfl (fun K hK => ?_) AllReadyH.nil)
 · as_aux_lemma => (
 go_simp
 refine hK.out _ _ hHeld (fun hHeld => ?_)
 clear hK K
 try dsimp only [Act.put]
 try simp only [Act.put, sI, s0, sS]
 refine wpAnyH_ready (rs := [4]) (by kernel_rfl) (by simp) ?_
 refine ar1 rfl (fun K hK => ?_)
 go_simp
 refine C.out.mono ?_
 rintro e w1 ⟨s1, rfl, hset, hb1⟩
 try dsimp only
 refine hK.out _ _ ((hb1.block _ (Array.getElem?_eq_some_iff.1 hHeld).1).trans hHeld) (fun hHeld => ?_)
 clear hK K
 have c6 : w1.cell? ⟨x6, 0, none⟩ = some (.slice vA k vc) := cellk c6 hb1
 try dsimp only [Act.put]
 try simp only [Act.put, sI, s0, sS]
 refine wpAnyH_ready (rs := [5]) (by kernel_rfl) (by simp) ?_
 refine ar1 rfl (fun K hK => ?_)
 refine step_build1 170 6 (infoD_four infoD170) 121 _ rfl Tryz.underlying121 (by decide) (cs := (dpI (mkDp false d, ⟨s1, nilS, nilS, nilS, nilS⟩)).toArray) rfl rfl _ (by kernel_rfl) 68 rfl ?_
 refine hK.out _ _ ((Below.heap_alloc _ _ _ (Array.getElem?_eq_some_iff.1 hHeld).1).trans hHeld) (fun hHeld => ?_)
 clear hK K
 have c6 : (w1.alloc (.cells (dpI (mkDp false d, ⟨s1, nilS, nilS, nilS, nilS⟩)).toArray 170)).cell? ⟨x6, 0, none⟩ = some (.slice vA k vc) := cellk c6 ((Below.refl _ _).alloc (Nat.le_refl _) _)
 try dsimp only [Act.put]
 try simp only [Act.put, sI, s0, sS]
 refine wpAnyH_ready (rs := [6]) (by kernel_rfl) (by simp) ?_
 refine ar1 rfl (fun K hK => ?_)
 have hq0 : PtK w1 (fun b => (Value.slice vA k vc).ownBlock ≠ some b ∧ b ≠ x6) (mkDp false d) ⟨s1, nilS, nilS, nilS, nilS⟩ := ptk_dp hset (fun b hb => ⟨fun e => by have := HOW.out b e; omega, by omega⟩)
 refine wpIf _ (by kernel_rfl) ?_
 refine wp_dmd infoD170 (by decide) (by decide) ((HDM.out.below hbW).below hb1) hx6 (by rw [hml]; omega) rfl (dpI_len _) (dpI_one _) hq0 _ _ 121 rfl Tryz.underlying121 rfl rfl rfl 69 rfl ?_
 intro g cap w3 hdm3 hc3 hf3 hk3
 rw [hml] at hdm3 ⊢
 refine hK.out _ _ ((hk3 x8 (by have := hb1.size; omega) (fun e => by have := HOW.out x8 e; omega)).trans ((hb1.block _ hx8).trans z8)) (fun hHeld => ?_)
 clear hK K
 try dsimp only [Act.put]
 try simp only [Act.put, sI, s0, sS]
 refine tk 7 70 (v := .pointer (some ⟨x6, 0, none⟩)) (a' := ?_) rfl rfl ?_ ?_ rfl ?_
 rotate_left 1
 · intro w2 hSw; go_simp
 · simp only [sI, s0, sS]; exact rfl
 refine wpAnyH_ready (rs := [8]) (by kernel_rfl) (by simp) ?_
 refine ar1 rfl (fun K hK => ?_)
 refine step_store1 121 (.tmp 70) (.tmp 69) rfl rfl rfl rfl infoS121 hc3 hf3 _ (by kernel_rfl) ?_
 refine hK.out _ _ ((heap_setCell_other _ ⟨x6, 0, none⟩ x8 _ (by show x8 ≠ x6; omega)).trans hHeld) (fun hHeld2 => ?_)
 clear hK K
 refine wpAnyH_done (by kernel_rfl) ?_ _
 go_wp2_with fail
 go_roundw
 case rel => exact ⟨k + 1, _, by omega, by go_num, by rw [HTK.out]; exact hdm3⟩
 case measure => simp [intOf]; omega)
 · as_aux_lemma => (
 go_simp
 refine C.out.mono ?_
 rintro e w1 ⟨s1, rfl, hset, hb1⟩
 try dsimp only
 refine hK.out _ _ ((hb1.block _ (Array.getElem?_eq_some_iff.1 hHeld).1).trans hHeld) (fun hHeld => ?_)
 clear hK K
 have c6 : w1.cell? ⟨x6, 0, none⟩ = some (.slice vA k vc) := cellk c6 hb1
 try dsimp only [Act.put]
 try simp only [Act.put, sI, s0, sS]
 refine wpAnyH_ready (rs := [1, 5]) (by kernel_rfl) (by simp) ?_
 refine AllReadyH.cons (o := _) rfl (fun K hK => ?_) (AllReadyH.cons (o := _) rfl (fun K hK => ?_) AllReadyH.nil)
 · as_aux_lemma => (
 go_simp
 refine hK.out _ _ hHeld (fun hHeld => ?_)
 clear hK K
 try dsimp only [Act.put]
 try simp only [Act.put, sI, s0, sS]
 refine wpAnyH_ready (rs := [5]) (by kernel_rfl) (by simp) ?_
 refine ar1 rfl (fun K hK => ?_)
 refine step_build1 170 6 (infoD_four infoD170) 121 _ rfl Tryz.underlying121 (by decide) (cs := (dpI (mkDp false d, ⟨s1, nilS, nilS, nilS, nilS⟩)).toArray) rfl rfl _ (by kernel_rfl) 68 rfl ?_
 refine hK.out _ _ ((Below.heap_alloc _ _ _ (Array.getElem?_eq_some_iff.1 hHeld).1).trans hHeld) (fun hHeld => ?_)
 clear hK K
 have c6 : (w1.alloc (.cells (dpI (mkDp false d, ⟨s1, nilS, nilS, nilS, nilS⟩)).toArray 170)).cell? ⟨x6, 0, none⟩ = some (.slice vA k vc) := cellk c6 ((Below.refl _ _).alloc (Nat.le_refl _) _)
 try dsimp only [Act.put]
 try simp only [Act.put, sI, s0, sS]
 refine wpAnyH_ready (rs := [6]) (by kernel_rfl) (by simp) ?_
 refine ar1 rfl (fun K hK => ?_)
 have hq0 : PtK w1 (fun b => (Value.slice vA k vc).ownBlock ≠ some b ∧ b ≠ x6) (mkDp false d) ⟨s1, nilS, nilS, nilS, nilS⟩ := ptk_dp hset (fun b hb => ⟨fun e => by have := HOW.out b e; omega, by omega⟩)
 refine wpIf _ (by kernel_rfl) ?_
 refine wp_dmd infoD170 (by decide) (by decide) ((HDM.out.below hbW).below hb1) hx6 (by rw [hml]; omega) rfl (dpI_len _) (dpI_one _) hq0 _ _ 121 rfl Tryz.underlying121 rfl rfl rfl 69 rfl ?_
 intro g cap w3 hdm3 hc3 hf3 hk3
 rw [hml] at hdm3 ⊢
 refine hK.out _ _ ((hk3 x8 (by have := hb1.size; omega) (fun e => by have := HOW.out x8 e; omega)).trans ((hb1.block _ hx8).trans z8)) (fun hHeld => ?_)
 clear hK K
 try dsimp only [Act.put]
 try simp only [Act.put, sI, s0, sS]
 refine tk 7 70 (v := .pointer (some ⟨x6, 0, none⟩)) (a' := ?_) rfl rfl ?_ ?_ rfl ?_
 rotate_left 1
 · intro w2 hSw; go_simp
 · simp only [sI, s0, sS]; exact rfl
 refine wpAnyH_ready (rs := [8]) (by kernel_rfl) (by simp) ?_
 refine ar1 rfl (fun K hK => ?_)
 refine step_store1 121 (.tmp 70) (.tmp 69) rfl rfl rfl rfl infoS121 hc3 hf3 _ (by kernel_rfl) ?_
 refine hK.out _ _ ((heap_setCell_other _ ⟨x6, 0, none⟩ x8 _ (by show x8 ≠ x6; omega)).trans hHeld) (fun hHeld2 => ?_)
 clear hK K
 refine wpAnyH_done (by kernel_rfl) ?_ _
 go_wp2_with fail
 go_roundw
 case rel => exact ⟨k + 1, _, by omega, by go_num, by rw [HTK.out]; exact hdm3⟩
 case measure => simp [intOf]; omega)
 · as_aux_lemma => (
 refine step_build1 170 6 (infoD_four infoD170) 121 _ rfl Tryz.underlying121 (by decide) (cs := (dpI (mkDp false d, ⟨s1, nilS, nilS, nilS, nilS⟩)).toArray) rfl rfl _ (by kernel_rfl) 68 rfl ?_
 refine hK.out _ _ ((Below.heap_alloc _ _ _ (Array.getElem?_eq_some_iff.1 hHeld).1).trans hHeld) (fun hHeld => ?_)
 clear hK K
 have c6 : (w1.alloc (.cells (dpI (mkDp false d, ⟨s1, nilS, nilS, nilS, nilS⟩)).toArray 170)).cell? ⟨x6, 0, none⟩ = some (.slice vA k vc) := cellk c6 ((Below.refl _ _).alloc (Nat.le_refl _) _)
 try dsimp only [Act.put]
 try simp only [Act.put, sI, s0, sS]
 refine wpAnyH_ready (rs := [1]) (by kernel_rfl) (by simp) ?_
 refine ar1 rfl (fun K hK => ?_)
 go_simp
 refine hK.out _ _ hHeld (fun hHeld => ?_)
 clear hK K
 try dsimp only [Act.put]
 try simp only [Act.put, sI, s0, sS]
 refine wpAnyH_ready (rs := [6]) (by kernel_rfl) (by simp) ?_
 refine ar1 rfl (fun K hK => ?_)
 have hq0 : PtK w1 (fun b => (Value.slice vA k vc).ownBlock ≠ some b ∧ b ≠ x6) (mkDp false d) ⟨s1, nilS, nilS, nilS, nilS⟩ := ptk_dp hset (fun b hb => ⟨fun e => by have := HOW.out b e; omega, by omega⟩)
 refine wpIf _ (by kernel_rfl) ?_
 refine wp_dmd infoD170 (by decide) (by decide) ((HDM.out.below hbW).below hb1) hx6 (by rw [hml]; omega) rfl (dpI_len _) (dpI_one _) hq0 _ _ 121 rfl Tryz.underlying121 rfl rfl rfl 69 rfl ?_
 intro g cap w3 hdm3 hc3 hf3 hk3
 rw [hml] at hdm3 ⊢
 refine hK.out _ _ ((hk3 x8 (by have := hb1.size; omega) (fun e => by have := HOW.out x8 e; omega)).trans ((hb1.block _ hx8).trans z8)) (fun hHeld => ?_)
 clear hK K
 try dsimp only [Act.put]
 try simp only [Act.put, sI, s0, sS]
 refine tk 7 70 (v := .pointer (some ⟨x6, 0, none⟩)) (a' := ?_) rfl rfl ?_ ?_ rfl ?_
 rotate_left 1
 · intro w2 hSw; go_simp
 · simp only [sI, s0, sS]; exact rfl
 refine wpAnyH_ready (rs := [8]) (by kernel_rfl) (by simp) ?_
 refine ar1 rfl (fun K hK => ?_)
 refine step_store1 121 (.tmp 70) (.tmp 69) rfl rfl rfl rfl infoS121 hc3 hf3 _ (by kernel_rfl) ?_
 refine hK.out _ _ ((heap_setCell_other _ ⟨x6, 0, none⟩ x8 _ (by show x8 ≠ x6; omega)).trans hHeld) (fun hHeld2 => ?_)
 clear hK K
 refine wpAnyH_done (by kernel_rfl) ?_ _
 go_wp2_with fail
 go_roundw
 case rel => exact ⟨k + 1, _, by omega, by go_num, by rw [HTK.out]; exact hdm3⟩
 case measure => simp [intOf]; omega))))
 · (
 have hkn : k = n := by omega
 have htk : l.take k = l := List.take_of_length_le (by have := HLEN.out; omega)
 have f9 : ¬ (k : Int) < (n : Int) := by omega
 rw [htk] at HDM
 have HKN := Lib.hid hkn
 clear hkn htk
 as_aux_lemma => (
 go_wp2_with ((with_reducible refine arm_load_all 1 infoA123 Tryz.underlying123 hblk ?_ ?_ ?_ ?_); rfl; rfl; rfl)
 go_ret
 obtain ⟨pts, h1, h2, h3⟩ := HDM.out.ex
 have hkn := HKN.out
 subst hkn
 obtain ⟨A', c', hv, hrd, _⟩ := rd_of_own h2 (fun r hr => by obtain ⟨q, _, rfl⟩ := List.mem_map.1 hr; exact dpI_len q) (by rw [List.length_map]; have := congrArg List.length h1; simpa using this) (by rw [List.length_map]; have := HLEN.out; omega)
 injection hv with e1 e2 e3
 subst e1 e3
 have hll : (List.map (fun x => mkDp false x.1) l).length = k := by rw [List.length_map]; exact HLEN.out
 rw [hll] at hrd
 first
  | exact ⟨vA, vc, pts, rfl, h1, hrd, fun q hq => (h3 q hq).pt, HDM.out.bel⟩
  | exact ⟨vA, vc, rfl, pts, h1, hrd, fun q hq => (h3 q hq).pt, HDM.out.bel⟩
  | exact ⟨vA, vc, rfl, pts, h1, hrd, fun a b hq => (h3 (a, b) hq).pt, HDM.out.bel⟩
  | exact ⟨vA, vc, pts, rfl, h1, hrd, fun a b hq => (h3 (a, b) hq).pt, HDM.out.bel⟩))))))
set_option maxRecDepth 100000 in
set_option maxHeartbeats 4000000 in
theorem c40_0 (fb dl mo : Bool) (A : Option Addr) (n c : Nat) (l : List (Dot × Sl5)) (w : World) (h : DotsR w w.heap.size A n c l) (hok : ∀ x ∈ l, AttrsOk x.1.attrs) (hn : n ≤ 900) (tp : Int) (htp : tp = if dl then 2 else 1) :
 Calls Tryz.prog 40 #[.agg #[.int .u8 0, .bool fb, .bool dl, .bool mo, .slice A n c], .func (.func 30) #[] #[]] w fun e w' => ∃ (A' : Option Addr) (c' : Nat) (pts : List (Dot × Sl5)), e = .returned (.iface 134 (.agg #[.slice A' n c', .int .u8 tp, .bool mo])) ∧ pts.map (·.1) = l.map (fun x => mkDp true x.1) ∧ Rd w' w'.heap.size 6 A' n c' (pts.map dpF) ∧ (∀ q ∈ pts, PtR w' w'.heap.size q.1 q.2) ∧ Below w.heap.size w w' := by
 have hlen := h.rd.numlen
 have H := Lib.hid h
 have HOK := Lib.hid hok
 have HLEN := Lib.hid hlen
 have HTP := Lib.hid htp
 clear h hok hlen htp
 obtain ⟨W0, hW0⟩ : ∃ W0, W0 = w.alloc (.cells #[.int .u8 0, .bool fb, .bool dl, .bool mo, .slice A n c] 30) := ⟨_, rfl⟩
 have hb : Below w.heap.size w W0 := bq hW0
 have hs0 : W0.heap.size = w.heap.size + 1 := by rw [hW0]; simp
 obtain ⟨x6, hx6d⟩ : ∃ x, x = W0.heap.size := ⟨_, rfl⟩
 have y0 : W0.cell? ⟨w.heap.size, 0, none⟩ = some (.int .u8 0) := by rw [hW0]; simp [go_sem]
 have y2 : W0.cell? ⟨w.heap.size, 2, none⟩ = some (.bool dl) := by rw [hW0]; simp [go_sem]
 have y3 : W0.cell? ⟨w.heap.size, 3, none⟩ = some (.bool mo) := by rw [hW0]; simp [go_sem]
 have y4 : W0.cell? ⟨w.heap.size, 4, none⟩ = some (.slice A n c) := by rw [hW0]; simp [go_sem]
 obtain ⟨W1, hW1⟩ : ∃ W1, W1 = W0.alloc (.cells #[.slice none 0 0, .int .u8 tp, .bool mo] 134) := ⟨_, rfl⟩
 have hb1 : Below W0.heap.size W0 W1 := bq hW1
 have hz6 : W1.heap[x6]? = some (.cells #[.slice none 0 0, .int .u8 tp, .bool mo] 134 (0, 0)) := by rw [hW1, hx6d]; exact heap_alloc_new W0 _
 have y4' := cellk y4 hb1
 have hdm0 : DM w W1 134 156 6 dpF x6 [.int .u8 tp, .bool mo] [] (.slice none 0 0) := ⟨⟨[], rfl, World.ownsRow_nil _ _ _ _, by simp⟩, by rw [hz6], by simp [Value.ownBlock], below_then hb hb.size hb1⟩
 have HDM0 := Lib.hid hdm0
 have HW := Lib.hid hW0
 have HW1 := Lib.hid hW1
 have HX6 := Lib.hid hx6d
 have HS0 := Lib.hid hs0
 have hx6 : w.heap.size ≤ x6 := by omega
 clear hW0 hW1 hb hb1 hz6 hdm0 hx6d hs0
 go_enter Tryz.func40, Tryz.ntmps40
 go_upto_region 2 with fail
 rw [← HW.out]
 go_upto_if 25 with fail
 go_cut [5] from 24 (fun s5 wx => s5 = .int .u8 tp ∧ wx = W0)
 case first => (
 have htp := HTP.out
 cases dl
 all_goals
  simp at htp
  subst htp
  go_wp2_with fail
  go_meet
  exact ⟨rfl, rfl⟩)
 case rest => (
 obtain ⟨rfl, rfl⟩ := hcut
 obtain ⟨W0, rfl⟩ : ∃ W0 : World, W0 = wc := ⟨_, rfl⟩
 as_aux_lemma => (
 go_upto_region 8 with ((with_reducible apply arm_store_new 3 infoA134); rfl; simp; rfl; rfl; rfl; rfl)
 rw [← HW1.out, ← HX6.out]
 try simp only [Act.put]
 go_upto_region 9 with fail
 as_aux_lemma => (
 go_loopw [8, 38] (fun _ i wr => ∃ (k : Nat) (v : Value), k ≤ n ∧ i = .int .i64 k ∧ DM w wr 134 156 6 dpF x6 [.int .u8 tp, .bool mo] ((l.take k).map fun x => mkDp true x.1) v) (fun _ i _ => n - (intOf i).toNat)
 case atStart => exact ⟨0, _, Nat.zero_le _, rfl, HDM0.out⟩
 case round => (
 obtain ⟨k, v, hk, rfl, hdm⟩ := hrel
 obtain ⟨wo, rfl⟩ : ∃ wo : World, wo = wr := ⟨_, rfl⟩
 have hml : ((l.take k).map fun x => mkDp true x.1).length = k := by rw [List.length_map, List.length_take]; have := HLEN.out; omega
 obtain ⟨vA, vc, hv⟩ := hdm.slice
 rw [hml] at hv
 subst hv
 have HDM := Lib.hid hdm
 have HML := Lib.hid hml
 have HOW : Hid (∀ g, (Value.slice vA k vc).ownBlock = some g → w.heap.size ≤ g ∧ g < wo.heap.size) := Lib.hid (by obtain ⟨pts, _, h2, _⟩ := hdm.ex; exact h2.lt)
 have hx6l : x6 < wo.heap.size := (Array.getElem?_eq_some_iff.1 hdm.blk).1
 have hblk := hdm.blk
 clear hdm hml
 by_cases hlt : k < n
 · (
 obtain ⟨ba, oa, r, rfl, hlta, hx, _, ca⟩ := (H.out.rd.below HDM.out.bel).at_ hlt
 rw [List.getElem?_map, Option.map_eq_some_iff] at hx
 obtain ⟨⟨d, s⟩, hx, rfl⟩ := hx
 have hxm := List.mem_of_getElem? hx
 obtain ⟨cx, hcx⟩ : ∃ cx, cx = (dotCells d s).toArray := ⟨_, rfl⟩
 have sx : cx.size = 18 := by rw [hcx]; rfl
 have ox : cx.toList.all (·.oneCell') = true := by rw [hcx]; rfl
 have ca2 : wo.rangeAt ba (oa + k * 18) cx.toList := by rw [hcx]; exact ca
 obtain ⟨x8, hx8d⟩ : ∃ x, x = wo.heap.size := ⟨_, rfl⟩
 obtain ⟨W2, hW2⟩ : ∃ W2, W2 = wo.alloc (.cells cx 63) := ⟨_, rfl⟩
 have hbn : Below wo.heap.size wo W2 := bq hW2
 have hbW : Below wo.heap.size wo W2.drew := below_drew hbn
 have z8 : W2.drew.heap[x8]? = some (.cells cx 63 (0, 0)) := by rw [hx8d, hW2]; exact heap_alloc_new wo _
 have hx8 : x8 < W2.drew.heap.size := (Array.getElem?_eq_some_iff.1 z8).1
 have c6 : W2.drew.cell? ⟨x6, 0, none⟩ = some (.slice vA k vc) := cellk (blk_cell hblk 0 _ (by simp)) hbW
 have C := Lib.hid (c67 d s W2.drew (((H.out.all _ hxm).below (HDM.out.bel.trans (hbW.mono HDM.out.bel.size))).more (Nat.le_trans HDM.out.bel.size hbW.size)) (HOK.out _ hxm))
 rw [← hcx] at C
 have HTK : Hid ((l.take (k + 1)).map (fun x => mkDp true x.1) = ((l.take k).map fun x => mkDp true x.1) ++ [mkDp true d]) := Lib.hid (by
  obtain ⟨hk', he⟩ := List.getElem?_eq_some_iff.1 hx
  rw [List.take_succ_eq_append_getElem hk', List.map_append, he]; rfl)
 have i0 : (0 : Int) ≤ (k : Int) := by omega
 have i1 : (k : Int) < (n : Int) := by omega
 have hsW : wo.heap.size ≤ W2.drew.heap.size := hbW.size
 have HW2 := Lib.hid hW2
 have HX8 := Lib.hid hx8d
 clear hx hxm hcx ca hbn hW2 hblk
 go_upto_region 11 with (first
  | ((with_reducible refine arm_load ca2 ?_ 18 info63 Tryz.underlying63 ?_ ?_ ?_); rfl; rfl; exact sx)
  | ((with_reducible apply arm_store_new 18 info63); rfl; simp; rfl; rfl; assumption; assumption))
 rw [← HW2.out]
 rw [← HX8.out]
 try simp only [Act.put]
 as_aux_lemma => (
 have hml := HML.out
 refine wp_region_held_drew (S := fun w' => w'.heap[x8]? = some (.cells cx 63 (0, 0))) (by kernel_rfl) z8 (fun hHeld => ?_)
 refine tk 0 42 (v := .pointer (some ⟨x6, 0, none⟩)) (a' := ?_) rfl rfl ?_ ?_ rfl ?_
 rotate_left 1
 · intro w2 hSw; go_simp
 · simp only [sI, s0, sS]; exact rfl
 refine tk 2 44 (v := .agg cx) (a' := ?_) rfl rfl ?_ ?_ rfl ?_
 rotate_left 1
 · intro w2 hSw; exact run_load_all rfl hSw rfl Tryz.underlying63 rfl (by rw [sx]; exact info63)
 · simp only [sI, s0, sS]; exact rfl
 refine tk 3 45 (v := .func (.func 30) #[] #[]) (a' := ?_) rfl rfl ?_ ?_ rfl ?_
 rotate_left 1
 · intro w2 hSw; go_simp
 · simp only [sI, s0, sS]; exact rfl
 refine wpAnyH_ready (rs := [1, 4]) (by kernel_rfl) (by simp) ?_
 refine AllReadyH.cons (o := _) rfl (fun K hK => ?_) (AllReadyH.cons (o := _) rfl (fun K hK => ?_) AllReadyH.nil)
 · as_aux_lemma => (
 go_simp
 refine hK.out _ _ hHeld (fun hHeld => ?_)
 clear hK K
 try dsimp only [Act.put]
 try simp only [Act.put, sI, s0, sS]
 refine wpAnyH_ready (rs := [4]) (by kernel_rfl) (by simp) ?_
 refine ar1 rfl (fun K hK => ?_)
 go_simp
 refine C.out.mono ?_
 rintro e w1 ⟨s1, rfl, hset, hb1⟩
 try dsimp only
 refine hK.out _ _ ((hb1.block _ (Array.getElem?_eq_some_iff.1 hHeld).1).trans hHeld) (fun hHeld => ?_)
 clear hK K
 have c6 : w1.cell? ⟨x6, 0, none⟩ = some (.slice vA k vc) := cellk c6 hb1
 try dsimp only [Act.put]
 try simp only [Act.put, sI, s0, sS]
 refine wpAnyH_ready (rs := [5]) (by kernel_rfl) (by simp) ?_
 refine ar1 rfl (fun K hK => ?_)
 refine step_build1 156 6 (infoD_four infoD156) 125 _ rfl Tryz.underlying125 (by decide) (cs := (dpF (mkDp true d, ⟨s1, nilS, nilS, nilS, nilS⟩)).toArray) rfl rfl _ (by kernel_rfl) 47 rfl ?_
 refine hK.out _ _ ((Below.heap_alloc _ _ _ (Array.getElem?_eq_some_iff.1 hHeld).1).trans hHeld) (fun hHeld => ?_)
 clear hK K
 have c6 : (w1.alloc (.cells (dpF (mkDp true d, ⟨s1, nilS, nilS, nilS, nilS⟩)).toArray 156)).cell? ⟨x6, 0, none⟩ = some (.slice vA k vc) := cellk c6 ((Below.refl _ _).alloc (Nat.le_refl _) _)
 try dsimp only [Act.put]
 try simp only [Act.put, sI, s0, sS]
 refine wpAnyH_ready (rs := [6]) (by kernel_rfl) (by simp) ?_
 refine ar1 rfl (fun K hK => ?_)
 have hq0 : PtK w1 (fun b => (Value.slice vA k vc).ownBlock ≠ some b ∧ b ≠ x6) (mkDp true d) ⟨s1, nilS, nilS, nilS, nilS⟩ := ptk_dp hset (fun b hb => ⟨fun e => by have := HOW.out b e; omega, by omega⟩)
 refine wpIf _ (by kernel_rfl) ?_
 refine wp_dmd infoD156 (by decide) (by decide) ((HDM.out.below hbW).below hb1) hx6 (by rw [hml]; omega) rfl (dpF_len _) (dpF_one _) hq0 _ _ 125 rfl Tryz.underlying125 rfl rfl rfl 48 rfl ?_
 intro g cap w3 hdm3 hc3 hf3 hk3
 rw [hml] at hdm3 ⊢
 refine hK.out _ _ ((hk3 x8 (by have := hb1.size; omega) (fun e => by have := HOW.out x8 e; omega)).trans ((hb1.block _ hx8).trans z8)) (fun hHeld => ?_)
 clear hK K
 try dsimp only [Act.put]
 try simp only [Act.put, sI, s0, sS]
 refine tk 7 49 (v := .pointer (some ⟨x6, 0, none⟩)) (a' := ?_) rfl rfl ?_ ?_ rfl ?_
 rotate_left 1
 · intro w2 hSw; go_simp
 · simp only [sI, s0, sS]; exact rfl
 refine wpAnyH_ready (rs := [8]) (by kernel_rfl) (by simp) ?_
 refine ar1 rfl (fun K hK => ?_)
 refine step_store1 125 (.tmp 49) (.tmp 48) rfl rfl rfl rfl infoS125 hc3 hf3 _ (by kernel_rfl) ?_
 refine hK.out _ _ ((heap_setCell_other _ ⟨x6, 0, none⟩ x8 _ (by show x8 ≠ x6; omega)).trans hHeld) (fun hHeld2 => ?_)
 clear hK K
 refine wpAnyH_done (by kernel_rfl) ?_ _
 go_wp2_with fail
 go_roundw
 case rel => exact ⟨k + 1, _, by omega, by go_num, by rw [HTK.out]; exact hdm3⟩
 case measure => simp [intOf]; omega)
 · as_aux_lemma => (
 go_simp
 refine C.out.mono ?_
 rintro e w1 ⟨s1, rfl, hset, hb1⟩
 try dsimp only
 refine hK.out _ _ ((hb1.block _ (Array.getElem?_eq_some_iff.1 hHeld).1).trans hHeld) (fun hHeld => ?_)
 clear hK K
 have c6 : w1.cell? ⟨x6, 0, none⟩ = some (.slice vA k vc) := cellk c6 hb1
 try dsimp only [Act.put]
 try simp only [Act.put, sI, s0, sS]
 refine wpAnyH_ready (rs := [1, 5]) (by kernel_rfl) (by simp) ?_
 refine AllReadyH.cons (o := _) rfl (fun K hK => ?_) (AllReadyH.cons (o := _) rfl (fun K hK => ?_) AllReadyH.nil)
 · as_aux_lemma => (
 go_simp
 refine hK.out _ _ hHeld (fun hHeld => ?_)
 clear hK K
 try dsimp only [Act.put]
 try simp only [Act.put, sI, s0, sS]
 refine wpAnyH_ready (rs := [5]) (by kernel_rfl) (by simp) ?_
 refine ar1 rfl (fun K hK => ?_)
 refine step_build1 156 6 (infoD_four infoD156) 125 _ rfl Tryz.underlying125 (by decide) (cs := (dpF (mkDp true d, ⟨s1, nilS, nilS, nilS, nilS⟩)).toArray) rfl rfl _ (by kernel_rfl) 47 rfl ?_
 refine hK.out _ _ ((Below.heap_alloc _ _ _ (Array.getElem?_eq_some_iff.1 hHeld).1).trans hHeld) (fun hHeld => ?_)
 clear hK K
 have c6 : (w1.alloc (.cells (dpF (mkDp true d, ⟨s1, nilS, nilS, nilS, nilS⟩)).toArray 156)).cell? ⟨x6, 0, none⟩ = some (.slice vA k vc) := cellk c6 ((Below.refl _ _).alloc (Nat.le_refl _) _)
 try dsimp only [Act.put]
 try simp only [Act.put, sI, s0, sS]
 refine wpAnyH_ready (rs := [6]) (by kernel_rfl) (by simp) ?_
 refine ar1 rfl (fun K hK => ?_)
 have hq0 : PtK w1 (fun b => (Value.slice vA k vc).ownBlock ≠ some b ∧ b ≠ x6) (mkDp true d) ⟨s1, nilS, nilS, nilS, nilS⟩ := ptk_dp hset (fun b hb => ⟨fun e => by have := HOW.out b e; omega, by omega⟩)
 refine wpIf _ (by kernel_rfl) ?_
 refine wp_dmd infoD156 (by decide) (by decide) ((HDM.out.below hbW).below hb1) hx6 (by rw [hml]; omega) rfl (dpF_len _) (dpF_one _) hq0 _ _ 125 rfl Tryz.underlying125 rfl rfl rfl 48 rfl ?_
 intro g cap w3 hdm3 hc3 hf3 hk3
 rw [hml] at hdm3 ⊢
 refine hK.out _ _ ((hk3 x8 (by have := hb1.size; omega) (fun e => by have := HOW.out x8 e; omega)).trans ((hb1.block _ hx8).trans z8)) (fun hHeld => ?_)
 clear hK K
 try dsimp only [Act.put]
 try simp only [Act.put, sI, s0, sS]
 refine tk 7 49 (v := .pointer (some ⟨x6, 0, none⟩)) (a' := ?_) rfl rfl ?_ ?_ rfl ?_
 rotate_left 1
 · intro w2 hSw; go_simp
 · simp only [sI, s0, sS]; exact rfl
 refine wpAnyH_ready (rs := [8]) (by kernel_rfl) (by simp) ?_
 refine ar1 rfl (fun K hK => ?_)
 refine step_store1 125 (.tmp 49) (.tmp 48) rfl rfl rfl rfl infoS125 hc3 hf3 _ (by kernel_rfl) ?_
 refine hK.out _ _ ((heap_setCell_other _ ⟨x6, 0, none⟩ x8 _ (by show x8 ≠ x6; omega)).trans hHeld) (fun hHeld2 => ?_)
 clear hK K
 refine wpAnyH_done (by kernel_rfl) ?_ _
 go_wp2_with fail
 go_roundw
 case rel => exact ⟨k + 1, _, by omega, by go_num, by rw [HTK.out]; exact hdm3⟩
 case measure => simp [intOf]; omega)
 · as_aux_lemma => (
 refine step_build1 156 6 (infoD_four infoD156) 125 _ rfl Tryz.underlying125 (by decide) (cs := (dpF (mkDp true d, ⟨s1, nilS, nilS, nilS, nilS⟩)).toArray) rfl rfl _ (by kernel_rfl) 47 rfl ?_
 refine hK.out _ _ ((Below.heap_alloc _ _ _ (Array.getElem?_eq_some_iff.1 hHeld).1).trans hHeld) (fun hHeld => ?_)
 clear hK K
 have c6 : (w1.alloc (.cells (dpF (mkDp true d, ⟨s1, nilS, nilS, nilS, nilS⟩)).toArray 156)).cell? ⟨x6, 0, none⟩ = some (.slice vA k vc) := cellk c6 ((Below.refl _ _).alloc (Nat.le_refl _) _)
 try dsimp only [Act.put]
 try simp only [Act.put, sI, s0, sS]
 refine wpAnyH_ready (rs := [1]) (by kernel_rfl) (by simp) ?_
 refine ar1 rfl (fun K hK => ?_)
 go_simp
 refine hK.out _ _ hHeld (fun hHeld => ?_)
 clear hK K
 try dsimp only [Act.put]
 try simp only [Act.put, sI, s0, sS]
 refine wpAnyH_ready (rs := [6]) (by kernel_rfl) (by simp) ?_
 refine ar1 rfl (fun K hK => ?_)
 have hq0 : PtK w1 (fun b => (Value.slice vA k vc).ownBlock ≠ some b ∧ b ≠ x6) (mkDp true d) ⟨s1, nilS, nilS, nilS, nilS⟩ := ptk_dp hset (fun b hb => ⟨fun e => by have := HOW.out b e; omega, by omega⟩)
 refine wpIf _ (by kernel_rfl) ?_
 refine wp_dmd infoD156 (by decide) (by decide) ((HDM.out.below hbW).below hb1) hx6 (by rw [hml]; omega) rfl (dpF_len _) (dpF_one _) hq0 _ _ 125 rfl Tryz.underlying125 rfl rfl rfl 48 rfl ?_
 intro g cap w3 hdm3 hc3 hf3 hk3
 rw [hml] at hdm3 ⊢
 refine hK.out _ _ ((hk3 x8 (by have := hb1.size; omega) (fun e => by have := HOW.out x8 e; omega)).trans ((hb1.block _ hx8).trans z8)) (fun hHeld => ?_)
 clear hK K
 try dsimp only [Act.put]
 try simp only [Act.put, sI, s0, sS]
 refine tk 7 49 (v := .pointer (some ⟨x6, 0, none⟩)) (a' := ?_) rfl rfl ?_ ?_ rfl ?_
 rotate_left 1
 · intro w2 hSw; go_simp
 · simp only [sI, s0, sS]; exact rfl
 refine wpAnyH_ready (rs := [8]) (by kernel_rfl) (by simp) ?_
 refine ar1 rfl (fun K hK => ?_)
 refine step_store1 125 (.tmp 49) (.tmp 48) rfl rfl rfl rfl infoS125 hc3 hf3 _ (by kernel_rfl) ?_
 refine hK.out _ _ ((heap_setCell_other _ ⟨x6, 0, none⟩ x8 _ (by show x8 ≠ x6; omega)).trans hHeld) (fun hHeld2 => ?_)
 clear hK K
 refine wpAnyH_done (by kernel_rfl) ?_ _
 go_wp2_with fail
 go_roundw
 case rel => exact ⟨k + 1, _, by omega, by go_num, by rw [HTK.out]; exact hdm3⟩
 case measure => simp [intOf]; omega))))
 · (
 have hkn : k = n := by omega
 have htk : l.take k = l := List.take_of_length_le (by have := HLEN.out; omega)
 have f9 : ¬ (k : Int) < (n : Int) := by omega
 rw [htk] at HDM
 have HKN := Lib.hid hkn
 clear hkn htk
 as_aux_lemma => (
 go_wp2_with ((with_reducible refine arm_load_all 3 infoA134 Tryz.underlying134 hblk ?_ ?_ ?_ ?_); rfl; rfl; rfl)
 go_ret
 obtain ⟨pts, h1, h2, h3⟩ := HDM.out.ex
 have hkn := HKN.out
 subst hkn
 obtain ⟨A', c', hv, hrd, _⟩ := rd_of_own h2 (fun r hr => by obtain ⟨q, _, rfl⟩ := List.mem_map.1 hr; exact dpF_len q) (by rw [List.length_map]; have := congrArg List.length h1; simpa using this) (by rw [List.length_map]; have := HLEN.out; omega)
 injection hv with e1 e2 e3
 subst e1 e3
 have hll : (List.map (fun x => mkDp true x.1) l).length = k := by rw [List.length_map]; exact HLEN.out
 rw [hll] at hrd
 first
  | exact ⟨vA, vc, pts, rfl, h1, hrd, fun q hq => (h3 q hq).pt, HDM.out.bel⟩
  | exact ⟨vA, vc, rfl, pts, h1, hrd, fun q hq => (h3 q hq).pt, HDM.out.bel⟩
  | exact ⟨vA, vc, rfl, pts, h1, hrd, fun a b hq => (h3 (a, b) hq).pt, HDM.out.bel⟩
  | exact ⟨vA, vc, pts, rfl, h1, hrd, fun a b hq => (h3 (a, b) hq).pt, HDM.out.bel⟩))))))
set_option maxRecDepth 100000 in
set_option maxHeartbeats 4000000 in
theorem c40_2 (fb dl mo : Bool) (A : Option Addr) (n c : Nat) (l : List (Dot × Sl5)) (w : World) (h : DotsR w w.heap.size A n c l) (hok : ∀ x ∈ l, AttrsOk x.1.attrs) (hn : n ≤ 900) (tp : Int) (htp : tp = if dl then 2 else 1) :
 Calls Tryz.prog 40 #[.agg #[.int .u8 2, .bool fb, .bool dl, .bool mo, .slice A n c], .func (.func 30) #[] #[]] w fun e w' => ∃ (A' : Option Addr) (c' : Nat) (pts : List (Dot × Sl5)), e = .returned (.iface 127 (.agg #[.slice A' n c'])) ∧ pts.map (·.1) = l.map (fun x => mkDp true x.1) ∧ Rd w' w'.heap.size 6 A' n c' (pts.map dpF) ∧ (∀ q ∈ pts, PtR w' w'.heap.size q.1 q.2) ∧ Below w.heap.size w w' := by
 have hlen := h.rd.numlen
 have H := Lib.hid h
 have HOK := Lib.hid hok
 have HLEN := Lib.hid hlen
 have HTP := Lib.hid htp
 clear h hok hlen htp
 obtain ⟨W0, hW0⟩ : ∃ W0, W0 = w.alloc (.cells #[.int .u8 2, .bool fb, .bool dl, .bool mo, .slice A n c] 30) := ⟨_, rfl⟩
 have hb : Below w.heap.size w W0 := bq hW0
 have hs0 : W0.heap.size = w.heap.size + 1 := by rw [hW0]; simp
 obtain ⟨x6, hx6d⟩ : ∃ x, x = W0.heap.size := ⟨_, rfl⟩
 have y0 : W0.cell? ⟨w.heap.size, 0, none⟩ = some (.int .u8 2) := by rw [hW0]; simp [go_sem]
 have y2 : W0.cell? ⟨w.heap.size, 2, none⟩ = some (.bool dl) := by rw [hW0]; simp [go_sem]
 have y3 : W0.cell? ⟨w.heap.size, 3, none⟩ = some (.bool mo) := by rw [hW0]; simp [go_sem]
 have y4 : W0.cell? ⟨w.heap.size, 4, none⟩ = some (.slice A n c) := by rw [hW0]; simp [go_sem]
 obtain ⟨W1, hW1⟩ : ∃ W1, W1 = W0.alloc (.cells #[.slice none 0 0] 127) := ⟨_, rfl⟩
 have hb1 : Below W0.heap.size W0 W1 := bq hW1
 have hz6 : W1.heap[x6]? = some (.cells #[.slice none 0 0] 127 (0, 0)) := by rw [hW1, hx6d]; exact heap_alloc_new W0 _
 have y4' := cellk y4 hb1
 have hdm0 : DM w W1 127 156 6 dpF x6 [] [] (.slice none 0 0) := ⟨⟨[], rfl, World.ownsRow_nil _ _ _ _, by simp⟩, by rw [hz6], by simp [Value.ownBlock], below_then hb hb.size hb1⟩
 have HDM0 := Lib.hid hdm0
 have HW := Lib.hid hW0
 have HW1 := Lib.hid hW1
 have HX6 := Lib.hid hx6d
 have HS0 := Lib.hid hs0
 have hx6 : w.heap.size ≤ x6 := by omega
 clear hW0 hW1 hb hb1 hz6 hdm0 hx6d hs0
 go_enter Tryz.func40, Tryz.ntmps40
 go_upto_region 2 with fail
 rw [← HW.out]
 go_upto_if 25 with fail
 go_cut [5] from 24 (fun s5 wx => s5 = .int .u8 tp ∧ wx = W0)
 case first => (
 have htp := HTP.out
 cases dl
 all_goals
  simp at htp
  subst htp
  go_wp2_with fail
  go_meet
  exact ⟨rfl, rfl⟩)
 case rest => (
 obtain ⟨rfl, rfl⟩ := hcut
 obtain ⟨W0, rfl⟩ : ∃ W0 : World, W0 = wc := ⟨_, rfl⟩
 as_aux_lemma => (
 go_upto_region 17 with ((with_reducible apply arm_store_new 1 infoA127); rfl; simp; rfl; rfl; rfl; rfl)
 rw [← HW1.out, ← HX6.out]
 try simp only [Act.put]
 go_upto_region 18 with fail
 as_aux_lemma => (
 go_loopw [11, 59] (fun _ i wr => ∃ (k : Nat) (v : Value), k ≤ n ∧ i = .int .i64 k ∧ DM w wr 127 156 6 dpF x6 [] ((l.take k).map fun x => mkDp true x.1) v) (fun _ i _ => n - (intOf i).toNat)
 case atStart => exact ⟨0, _, Nat.zero_le _, rfl, HDM0.out⟩
 case round => (
 obtain ⟨k, v, hk, rfl, hdm⟩ := hrel
 obtain ⟨wo, rfl⟩ : ∃ wo : World, wo = wr := ⟨_, rfl⟩
 have hml : ((l.take k).map fun x => mkDp true x.1).length = k := by rw [List.length_map, List.length_take]; have := HLEN.out; omega
 obtain ⟨vA, vc, hv⟩ := hdm.slice
 rw [hml] at hv
 subst hv
 have HDM := Lib.hid hdm
 have HML := Lib.hid hml
 have HOW : Hid (∀ g, (Value.slice vA k vc).ownBlock = some g → w.heap.size ≤ g ∧ g < wo.heap.size) := Lib.hid (by obtain ⟨pts, _, h2, _⟩ := hdm.ex; exact h2.lt)
 have hx6l : x6 < wo.heap.size := (Array.getElem?_eq_some_iff.1 hdm.blk).1
 have hblk := hdm.blk
 clear hdm hml
 by_cases hlt : k < n
 · (
 obtain ⟨ba, oa, r, rfl, hlta, hx, _, ca⟩ := (H.out.rd.below HDM.out.bel).at_ hlt
 rw [List.getElem?_map, Option.map_eq_some_iff] at hx
 obtain ⟨⟨d, s⟩, hx, rfl⟩ := hx
 have hxm := List.mem_of_getElem? hx
 obtain ⟨cx, hcx⟩ : ∃ cx, cx = (dotCells d s).toArray := ⟨_, rfl⟩
 have sx : cx.size = 18 := by rw [hcx]; rfl
 have ox : cx.toList.all (·.oneCell') = true := by rw [hcx]; rfl
 have ca2 : wo.rangeAt ba (oa + k * 18) cx.toList := by rw [hcx]; exact ca
 obtain ⟨x8, hx8d⟩ : ∃ x, x = wo.heap.size := ⟨_, rfl⟩
 obtain ⟨W2, hW2⟩ : ∃ W2, W2 = wo.alloc (.cells cx 63) := ⟨_, rfl⟩
 have hbn : Below wo.heap.size wo W2 := bq hW2
 have hbW : Below wo.heap.size wo W2.drew := below_drew hbn
 have z8 : W2.drew.heap[x8]? = some (.cells cx 63 (0, 0)) := by rw [hx8d, hW2]; exact heap_alloc_new wo _
 have hx8 : x8 < W2.drew.heap.size := (Array.getElem?_eq_some_iff.1 z8).1
 have c6 : W2.drew.cell? ⟨x6, 0, none⟩ = some (.slice vA k vc) := cellk (blk_cell hblk 0 _ (by simp)) hbW
 have C := Lib.hid (c67 d s W2.drew (((H.out.all _ hxm).below (HDM.out.bel.trans (hbW.mono HDM.out.bel.size))).more (Nat.le_trans HDM.out.bel.size hbW.size)) (HOK.out _ hxm))
 rw [← hcx] at C
 have HTK : Hid ((l.take (k + 1)).map (fun x => mkDp true x.1) = ((l.take k).map fun x => mkDp true x.1) ++ [mkDp true d]) := Lib.hid (by
  obtain ⟨hk', he⟩ := List.getElem?_eq_some_iff.1 hx
  rw [List.take_succ_eq_append_getElem hk', List.map_append, he]; rfl)
 have i0 : (0 : Int) ≤ (k : Int) := by omega
 have i1 : (k : Int) < (n : Int) := by omega
 have hsW : wo.heap.size ≤ W2.drew.heap.size := hbW.size
 have HW2 := Lib.hid hW2
 have HX8 := Lib.hid hx8d
 clear hx hxm hcx ca hbn hW2 hblk
 go_upto_region 20 with (first
  | ((with_reducible refine arm_load ca2 ?_ 18 info63 Tryz.underlying63 ?_ ?_ ?_); rfl; rfl; exact sx)
  | ((with_reducible apply arm_store_new 18 info63); rfl; simp; rfl; rfl; assumption; assumption))
 rw [← HW2.out]
 rw [← HX8.out]
 try simp only [Act.put]
 as_aux_lemma => (
 have hml := HML.out
 refine wp_region_held_drew (S := fun w' => w'.heap[x8]? = some (.cells cx 63 (0, 0))) (by kernel_rfl) z8 (fun hHeld => ?_)
 refine tk 0 63 (v := .pointer (some ⟨x6, 0, none⟩)) (a' := ?_) rfl rfl ?_ ?_ rfl ?_
 rotate_left 1
 · intro w2 hSw; go_simp
 · simp only [sI, s0, sS]; exact rfl
 refine tk 2 65 (v := .agg cx) (a' := ?_) rfl rfl ?_ ?_ rfl ?_
 rotate_left 1
 · intro w2 hSw; exact run_load_all rfl hSw rfl Tryz.underlying63 rfl (by rw [sx]; exact info63)
 · simp only [sI, s0, sS]; exact rfl
 refine tk 3 66 (v := .func (.func 30) #[] #[]) (a' := ?_) rfl rfl ?_ ?_ rfl ?_
 rotate_left 1
 · intro w2 hSw; go_simp
 · simp only [sI, s0, sS]; exact rfl
 refine wpAnyH_ready (rs := [1, 4]) (by kernel_rfl) (by simp) ?_
 refine AllReadyH.cons (o := _) rfl (fun K hK => ?_) (AllReadyH.cons (o := _) rfl (fun K hK => ?_) AllReadyH.nil)
 · as_aux_lemma => (
 go_simp
 refine hK.out _ _ hHeld (fun hHeld => ?_)
 clear hK K
 try dsimp only [Act.put]
 try simp only [Act.put, sI, s0, sS]
 refine wpAnyH_ready (rs := [4]) (by kernel_rfl) (by simp) ?_
 refine ar1 rfl (fun K hK => ?_)
 go_simp
 refine C.out.mono ?_
 rintro e w1 ⟨s1, rfl, hset, hb1⟩
 try dsimp only
 refine hK.out _ _ ((hb1.block _ (Array.getElem?_eq_some_iff.1 hHeld).1).trans hHeld) (fun hHeld => ?_)
 clear hK K
 have c6 : w1.cell? ⟨x6, 0, none⟩ = some (.slice vA k vc) := cellk c6 hb1
 try dsimp only [Act.put]
 try simp only [Act.put, sI, s0, sS]
 refine wpAnyH_ready (rs := [5]) (by kernel_rfl) (by simp) ?_
 refine ar1 rfl (fun K hK => ?_)
 refine step_build1 156 6 (infoD_four infoD156) 125 _ rfl Tryz.underlying125 (by decide) (cs := (dpF (mkDp true d, ⟨s1, nilS, nilS, nilS, nilS⟩)).toArray) rfl rfl _ (by kernel_rfl) 68 rfl ?_
 refine hK.out _ _ ((Below.heap_alloc _ _ _ (Array.getElem?_eq_some_iff.1 hHeld).1).trans hHeld) (fun hHeld => ?_)
 clear hK K
 have c6 : (w1.alloc (.cells (dpF (mkDp true d, ⟨s1, nilS, nilS, nilS, nilS⟩)).toArray 156)).cell? ⟨x6, 0, none⟩ = some (.slice vA k vc) := cellk c6 ((Below.refl _ _).alloc (Nat.le_refl _) _)
 try dsimp only [Act.put]
 try simp only [Act.put, sI, s0, sS]
 refine wpAnyH_ready (rs := [6]) (by kernel_rfl) (by simp) ?_
 refine ar1 rfl (fun K hK => ?_)
 have hq0 : PtK w1 (fun b => (Value.slice vA k vc).ownBlock ≠ some b ∧ b ≠ x6) (mkDp true d) ⟨s1, nilS, nilS, nilS, nilS⟩ := ptk_dp hset (fun b hb => ⟨fun e => by have := HOW.out b e; omega, by omega⟩)
 refine wpIf _ (by kernel_rfl) ?_
 refine wp_dmd infoD156 (by decide) (by decide) ((HDM.out.below hbW).below hb1) hx6 (by rw [hml]; omega) rfl (dpF_len _) (dpF_one _) hq0 _ _ 125 rfl Tryz.underlying125 rfl rfl rfl 69 rfl ?_
 intro g cap w3 hdm3 hc3 hf3 hk3
 rw [hml] at hdm3 ⊢
 refine hK.out _ _ ((hk3 x8 (by have := hb1.size; omega) (fun e => by have := HOW.out x8 e; omega)).trans ((hb1.block _ hx8).trans z8)) (fun hHeld => ?_)
 clear hK K
 try dsimp only [Act.put]
 try simp only [Act.put, sI, s0, sS]
 refine tk 7 70 (v := .pointer (some ⟨x6, 0, none⟩)) (a' := ?_) rfl rfl ?_ ?_ rfl ?_
 rotate_left 1
 · intro w2 hSw; go_simp
 · simp only [sI, s0, sS]; exact rfl
 refine wpAnyH_ready (rs := [8]) (by kernel_rfl) (by simp) ?_
 refine ar1 rfl (fun K hK => ?_)
 refine step_store1 125 (.tmp 70) (.tmp 69) rfl rfl rfl rfl infoS125 hc3 hf3 _ (by kernel_rfl) ?_
 refine hK.out _ _ ((heap_setCell_other _ ⟨x6, 0, none⟩ x8 _ (by show x8 ≠ x6; omega)).trans hHeld) (fun hHeld2 => ?_)
 clear hK K
 refine wpAnyH_done (by kernel_rfl) ?_ _
 go_wp2_with fail
 go_roundw
 case rel => exact ⟨k + 1, _, by omega, by go_num, by rw [HTK.out]; exact hdm3⟩
 case measure => simp [intOf]; omega)
 · as_aux_lemma => (
 go_simp
 refine C.out.mono ?_
 rintro e w1 ⟨s1, rfl, hset, hb1⟩
 try dsimp only
 refine hK.out _ _ ((hb1.block _ (Array.getElem?_eq_some_iff.1 hHeld).1).trans hHeld) (fun hHeld => ?_)
 clear hK K
 have c6 : w1.cell? ⟨x6, 0, none⟩ = some (.slice vA k vc) := cellk c6 hb1
 try dsimp only [Act.put]
 try simp only [Act.put, sI, s0, sS]
 refine wpAnyH_ready (rs := [1, 5]) (by kernel_rfl) (by simp) ?_
 refine AllReadyH.cons (o := _) rfl (fun K hK => ?_) (AllReadyH.cons (o := _) rfl (fun K hK => ?_) AllReadyH.nil)
 · as_aux_lemma => (
 go_simp
 refine hK.out _ _ hHeld (fun hHeld => ?_)
 clear hK K
 try dsimp only [Act.put]
 try simp only [Act.put, sI, s0, sS]
 refine wpAnyH_ready (rs := [5]) (by kernel_rfl) (by simp) ?_
 refine ar1 rfl (fun K hK => ?_)
 refine step_build1 156 6 (infoD_four infoD156) 125 _ rfl Tryz.underlying125 (by decide) (cs := (dpF (mkDp true d, ⟨s1, nilS, nilS, nilS, nilS⟩)).toArray) rfl rfl _ (by kernel_rfl) 68 rfl ?_
 refine hK.out _ _ ((Below.heap_alloc _ _ _ (Array.getElem?_eq_some_iff.1 hHeld).1).trans hHeld) (fun hHeld => ?_)
 clear hK K
 have c6 : (w1.alloc (.cells (dpF (mkDp true d, ⟨s1, nilS, nilS, nilS, nilS⟩)).toArray 156)).cell? ⟨x6, 0, none⟩ = some (.slice vA k vc) := cellk c6 ((Below.refl _ _).alloc (Nat.le_refl _) _)
 try dsimp only [Act.put]
 try simp only [Act.put, sI, s0, sS]
 refine wpAnyH_ready (rs := [6]) (by kernel_rfl) (by simp) ?_
 refine ar1 rfl (fun K hK => ?_)
 have hq0 : PtK w1 (fun b => (Value.slice vA k vc).ownBlock ≠ some b ∧ b ≠ x6) (mkDp true d) ⟨s1, nilS, nilS, nilS, nilS⟩ := ptk_dp hset (fun b hb => ⟨fun e => by have := HOW.out b e; omega, by omega⟩)
 refine wpIf _ (by kernel_rfl) ?_
 refine wp_dmd infoD156 (by decide) (by decide) ((HDM.out.below hbW).below hb1) hx6 (by rw [hml]; omega) rfl (dpF_len _) (dpF_one _) hq0 _ _ 125 rfl Tryz.underlying125 rfl rfl rfl 69 rfl ?_
 intro g cap w3 hdm3 hc3 hf3 hk3
 rw [hml] at hdm3 ⊢
 refine hK.out _ _ ((hk3 x8 (by have := hb1.size; omega) (fun e => by have := HOW.out x8 e; omega)).trans ((hb1.block _ hx8).trans z8)) (fun hHeld => ?_)
 clear hK K
 try dsimp only [Act.put]
 try simp only [Act.put, sI, s0, sS]
 refine tk 7 70 (v := .pointer (some ⟨x6, 0, none⟩)) (a' := ?_) rfl rfl ?_ ?_ rfl ?_
 rotate_left 1
 · intro w2 hSw; go_simp
 · simp only [sI, s0, sS]; exact rfl
 refine wpAnyH_ready (rs := [8]) (by kernel_rfl) (by simp) ?_
 refine ar1 rfl (fun K hK => ?_)
 refine step_store1 125 (.tmp 70) (.tmp 69) rfl rfl rfl rfl infoS125 hc3 hf3 _ (by kernel_rfl) ?_
 refine hK.out _ _ ((heap_setCell_other _ ⟨x6, 0, none⟩ x8 _ (by show x8 ≠ x6; omega)).trans hHeld) (fun hHeld2 => ?_)
 clear hK K
 refine wpAnyH_done (by kernel_rfl) ?_ _
 go_wp2_with fail
 go_roundw
 case rel => exact ⟨k + 1, _, by omega, by go_num, by rw [HTK.out]; exact hdm3⟩
 case measure => simp [intOf]; omega)
 · as_aux_lemma => (
 refine step_build1 156 6 (infoD_four infoD156) 125 _ rfl Tryz.underlying125 (by decide) (cs := (dpF (mkDp true d, ⟨s1, nilS, nilS, nilS, nilS⟩)).toArray) rfl rfl _ (by kernel_rfl) 68 rfl ?_
 refine hK.out _ _ ((Below.heap_alloc _ _ _ (Array.getElem?_eq_some_iff.1 hHeld).1).trans hHeld) (fun hHeld => ?_)
 clear hK K
 have c6 : (w1.alloc (.cells (dpF (mkDp true d, ⟨s1, nilS, nilS, nilS, nilS⟩)).toArray 156)).cell? ⟨x6, 0, none⟩ = some (.slice vA k vc) := cellk c6 ((Below.refl _ _).alloc (Nat.le_refl _) _)
 try dsimp only [Act.put]
 try simp only [Act.put, sI, s0, sS]
 refine wpAnyH_ready (rs := [1]) (by kernel_rfl) (by simp) ?_
 refine ar1 rfl (fun K hK => ?_)
 go_simp
 refine hK.out _ _ hHeld (fun hHeld => ?_)
 clear hK K
 try dsimp only [Act.put]
 try simp only [Act.put, sI, s0, sS]
 refine wpAnyH_ready (rs := [6]) (by kernel_rfl) (by simp) ?_
 refine ar1 rfl (fun K hK => ?_)
 have hq0 : PtK w1 (fun b => (Value.slice vA k vc).ownBlock ≠ some b ∧ b ≠ x6) (mkDp true d) ⟨s1, nilS, nilS, nilS, nilS⟩ := ptk_dp hset (fun b hb => ⟨fun e => by have := HOW.out b e; omega, by omega⟩)
 refine wpIf _ (by kernel_rfl) ?_
 refine wp_dmd infoD156 (by decide) (by decide) ((HDM.out.below hbW).below hb1) hx6 (by rw [hml]; omega) rfl (dpF_len _) (dpF_one _) hq0 _ _ 125 rfl Tryz.underlying125 rfl rfl rfl 69 rfl ?_
 intro g cap w3 hdm3 hc3 hf3 hk3
 rw [hml] at hdm3 ⊢
 refine hK.out _ _ ((hk3 x8 (by have := hb1.size; omega) (fun e => by have := HOW.out x8 e; omega)).trans ((hb1.block _ hx8).trans z8)) (fun hHeld => ?_)
 clear hK K
 try dsimp only [Act.put]
 try simp only [Act.put, sI, s0, sS]
 refine tk 7 70 (v := .pointer (some ⟨x6, 0, none⟩)) (a' := ?_) rfl rfl ?_ ?_ rfl ?_
 rotate_left 1
 · intro w2 hSw; go_simp
 · simp only [sI, s0, sS]; exact rfl
 refine wpAnyH_ready (rs := [8]) (by kernel_rfl) (by simp) ?_
 refine ar1 rfl (fun K hK => ?_)
 refine step_store1 125 (.tmp 70) (.tmp 69) rfl rfl rfl rfl infoS125 hc3 hf3 _ (by kernel_rfl) ?_
 refine hK.out _ _ ((heap_setCell_other _ ⟨x6, 0, none⟩ x8 _ (by show x8 ≠ x6; omega)).trans hHeld) (fun hHeld2 => ?_)
 clear hK K
 refine wpAnyH_done (by kernel_rfl) ?_ _
 go_wp2_with fail
 go_roundw
 case rel => exact ⟨k + 1, _, by omega, by go_num, by rw [HTK.out]; exact hdm3⟩
 case measure => simp [intOf]; omega))))
 · (
 have hkn : k = n := by omega
 have htk : l.take k = l := List.take_of_length_le (by have := HLEN.out; omega)
 have f9 : ¬ (k : Int) < (n : Int) := by omega
 rw [htk] at HDM
 have HKN := Lib.hid hkn
 clear hkn htk
 as_aux_lemma => (
 go_wp2_with ((with_reducible refine arm_load_all 1 infoA127 Tryz.underlying127 hblk ?_ ?_ ?_ ?_); rfl; rfl; rfl)
 go_ret
 obtain ⟨pts, h1, h2, h3⟩ := HDM.out.ex
 have hkn := HKN.out
 subst hkn
 obtain ⟨A', c', hv, hrd, _⟩ := rd_of_own h2 (fun r hr => by obtain ⟨q, _, rfl⟩ := List.mem_map.1 hr; exact dpF_len q) (by rw [List.length_map]; have := congrArg List.length h1; simpa using this) (by rw [List.length_map]; have := HLEN.out; omega)
 injection hv with e1 e2 e3
 subst e1 e3
 have hll : (List.map (fun x => mkDp true x.1) l).length = k := by rw [List.length_map]; exact HLEN.out
 rw [hll] at hrd
 first
  | exact ⟨vA, vc, pts, rfl, h1, hrd, fun q hq => (h3 q hq).pt, HDM.out.bel⟩
  | exact ⟨vA, vc, rfl, pts, h1, hrd, fun q hq => (h3 q hq).pt, HDM.out.bel⟩
  | exact ⟨vA, vc, rfl, pts, h1, hrd, fun a b hq => (h3 (a, b) hq).pt, HDM.out.bel⟩
  | exact ⟨vA, vc, pts, rfl, h1, hrd, fun a b hq => (h3 (a, b) hq).pt, HDM.out.bel⟩))))))
end Go.Proofs.YtlpddogcnpokfaaGreatDoor
