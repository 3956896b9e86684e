/- Contracts of functions of the program, for the comparison of aggregations (part KA9). -/
import Derived.Test.YtlpddogcnpokfaaGreatDoorKDm1
set_option linter.all false
namespace Go.Proofs.YtlpddogcnpokfaaGreatDoor
open Go.RowKit
section
/-! ### Values built of many fields -/
theorem exec_build {P : Program} {o : Oper} {a : Act} {w : World} {t : TypeId} {fs : Array (Nat × Operand)} {vals : List (Nat × Value)} {cs : Array Value} (h : P.built t vals = some cs) (ho : o.op = .build t fs) (hv : (fs.toList.map fun p => (p.1, a.eval p.2)) = vals) :
 (execOp a.eval o).run P w = .ok (.value (.agg cs)) w := by
 have e : (fs.map fun p => (p.1, a.eval p.2)).toList = vals := by rw [← hv]; simp
 have hr := run_build (P := P) w t (fs.map fun p => (p.1, a.eval p.2)) cs (by rw [e]; exact h)
 unfold execOp
 simp only [ho, Sem.run_bind, Sem.run_pure]
 rw [show (Instr.build t (fs.map fun x => (x.1, a.eval x.2))).run P w = _ from hr]
 rfl
theorem arm_build {P : Program} {ops : Array Oper} {rest : List Oper} {a : Act} {Q : Exit → Act → World → Prop} {d : Option Tmp} {tt : TypeId} {ps : String} {af : Array Edge} {w : World} {t : TypeId} {fs : Array (Nat × Operand)} {vals : List (Nat × Value)} {cs : Array Value}
 (h : P.built t vals = some cs) (hv : (fs.toList.map fun p => (p.1, a.eval p.2)) = vals) (H : wpList P ops Q rest (a.put d (.agg cs)) w) : wpList P ops Q (⟨d, .build t fs, tt, ps, af, none⟩ :: rest) a w := by
 refine wpList_plain rfl fun K hK => ?_
 unfold Oper.wp
 rw [exec_build h rfl hv, Oper.upon_value]
 exact hK _ _ H
/-! ### A point that is under way -/
/-- Its block, the block of the value that it is made from, its set: all made since the round began. -/
structure HB (wo W : World) (cv : Array Value) (x15 x16 m : Nat) (ty : TypeId) (cs : List Value) (s1 : Sl) (kvs : List KV) : Prop where
 bel : Below wo.heap.size wo W
 v15 : W.heap[x15]? = some (.cells cv 61 (0, 0))
 v16 : W.heap[x16]? = some (.cells cs.toArray ty (0, 0))
 set : SetR W W.heap.size s1 kvs
 lo : ∀ b o t, s1.A = some ⟨b, o, t⟩ → 0 < s1.n → wo.heap.size ≤ b ∧ b < m ∧ b ≠ x16
 a : wo.heap.size ≤ x15 ∧ wo.heap.size ≤ x16 ∧ x15 ≠ x16 ∧ x15 < m ∧ x16 < m ∧ m ≤ W.heap.size
theorem setR_kept {w w' : World} {s : Sl} {l : List KV} {ok : Nat → Prop} (h : SetR w w.heap.size s l) (ho : ∀ b o t, s.A = some ⟨b, o, t⟩ → 0 < s.n → ok b) (hk : ∀ b, b < w.heap.size → ok b → w'.heap[b]? = w.heap[b]?) (hs : w.heap.size ≤ w'.heap.size) : SetR w' w'.heap.size s l := by
 obtain ⟨h1, h2, h3, h4⟩ := h
 exact ⟨h1.stay (fun b o sp e hn => ho b o sp e hn) hk hs, h2, h3, h4⟩
theorem HB.put {wo W : World} {cv : Array Value} {x15 x16 m : Nat} {ty : TypeId} {cs : List Value} {s1 : Sl} {kvs : List KV} (h : HB wo W cv x15 x16 m ty cs s1 kvs) (i : Nat) (v : Value) : HB wo (W.setCell ⟨x16, i, none⟩ v) cv x15 x16 m ty (cs.set i v) s1 kvs := by
 obtain ⟨h1, h2, h3, h4, h5, a1, a2, a3, a4, a5, a6⟩ := h
 have hss : (W.setCell ⟨x16, i, none⟩ v).heap.size = W.heap.size := by simp [World.setCell]
 have hoth : ∀ b, b ≠ x16 → (W.setCell ⟨x16, i, none⟩ v).heap[b]? = W.heap[b]? := fun b hb => heap_setCell_other _ _ _ _ hb
 refine ⟨h1.setCell a2 _, (hoth _ a3).trans h2, ?_, setR_kept (ok := fun b => b ≠ x16) h4 (fun b o t e hn => (h5 b o t e hn).2.2) (fun b _ hb => hoth b hb) (by omega), h5, a1, a2, a3, a4, a5, by omega⟩
 rw [heap_setCell_same W x16 i _ _ _ h3]
 simp
theorem HB.grown {wo W W1 : World} {cv : Array Value} {x15 x16 m : Nat} {ty : TypeId} {cs : List Value} {s1 : Sl} {kvs : List KV} (h : HB wo W cv x15 x16 m ty cs s1 kvs) {row : Option Nat} (hg : W.grownBy W1 row) (hr : ∀ g, row = some g → m ≤ g) : HB wo W1 cv x15 x16 m ty cs s1 kvs := by
 obtain ⟨h1, h2, h3, h4, h5, a1, a2, a3, a4, a5, a6⟩ := h
 have hk : ∀ b, b < W.heap.size → b < m → W1.heap[b]? = W.heap[b]? := fun b hb hm => hg.block b hb (fun e => by have := hr b e.symm; omega)
 exact ⟨h1.grown hg h1.size (fun k hk => by have := hr k hk; omega), (hk x15 (by omega) a4).trans h2, (hk x16 (by omega) a5).trans h3, setR_kept (ok := fun b => b < m) h4 (fun b o t e hn => (h5 b o t e hn).2.1) hk hg.size, h5, a1, a2, a3, a4, a5, by have := hg.size; omega⟩
theorem HB.below {wo W W1 : World} {cv : Array Value} {x15 x16 m : Nat} {ty : TypeId} {cs : List Value} {s1 : Sl} {kvs : List KV} (h : HB wo W cv x15 x16 m ty cs s1 kvs) (hb : Below W.heap.size W W1) : HB wo W1 cv x15 x16 m ty cs s1 kvs := by
 obtain ⟨h1, h2, h3, h4, h5, a1, a2, a3, a4, a5, a6⟩ := h
 exact ⟨below_then h1 h1.size hb, (hb.block x15 (by omega)).trans h2, (hb.block x16 (by omega)).trans h3, (h4.below hb).more hb.size, h5, a1, a2, a3, a4, a5, by have := hb.size; omega⟩
theorem HB.cell {wo W : World} {cv : Array Value} {x15 x16 m : Nat} {ty : TypeId} {cs : List Value} {s1 : Sl} {kvs : List KV} (h : HB wo W cv x15 x16 m ty cs s1 kvs) (i : Nat) (v : Value) (hv : cs[i]? = some v) : W.cell? ⟨x16, i, none⟩ = some v := blk_cell h.v16 i v (by simpa using hv)
/-- The point is made, its set and its bounds in blocks of their own: the points that are made so far stay as they are. -/
theorem HB.ptk {w wo W : World} {cv : Array Value} {x15 x16 m : Nat} {ty : TypeId} {cs : List Value} {s1 : Sl} {d : Dot} (h : HB wo W cv x15 x16 m ty cs s1 d.attrs) {sb sk sp sn : Sl} {ok : Nat → Prop}
 (hb : Rd W W.heap.size 1 sb.A sb.n sb.c (d.bounds.map encF)) (hbo : ∀ b o t, sb.A = some ⟨b, o, t⟩ → m ≤ b)
 (hk : Rd W w.heap.size 1 sk.A sk.n sk.c (d.buckets.map encU)) (hp : Rd W w.heap.size 1 sp.A sp.n sp.c (d.pos.map encU)) (hn : Rd W w.heap.size 1 sn.A sn.n sn.c (d.neg.map encU))
 (hwo : w.heap.size ≤ wo.heap.size) (h1 : ∀ b, wo.heap.size ≤ b → ok b) (h2 : ∀ b, b < w.heap.size → ok b) : PtK W ok d ⟨s1, sb, sk, sp, sn⟩ := by
 have hle : w.heap.size ≤ W.heap.size := by have := h.bel.size; omega
 refine ⟨⟨h.set, hb, hk.more hle, hp.more hle, hn.more hle⟩, fun t ht b o s e hz => ?_⟩
 have low : ∀ {u : Sl} {rows : List (List Value)}, Rd W w.heap.size 1 u.A u.n u.c rows → 0 < u.n → u.A = some ⟨b, o, s⟩ → b < w.heap.size := fun hr hn' he => by
  obtain ⟨b', o', e', hb', _⟩ := hr.mem hn'
  rw [he] at e'
  injection e' with e'
  injection e' with e1 _ _
  omega
 simp only [List.mem_cons, List.not_mem_nil, or_false] at ht
 rcases ht with rfl | rfl | rfl | rfl | rfl
 · exact h1 b (h.lo b o s e hz).1
 · exact h1 b (by have := hbo b o s e; have := h.a.1; have := h.a.2.2.2.1; omega)
 · exact h2 b (low hk hz e)
 · exact h2 b (low hp hz e)
 · exact h2 b (low hn hz e)
/-- The memory for a block made. -/
theorem step_alloc {P : Program} {o : Oper} {a : Act} {w : World} {K : Act → World → Prop} {Q : Exit → Act → World → Prop} {E : Prop} (ob : Obj) (hrun : ∀ w : World, (execOp a.eval o).run P w = .ok (.value (.pointer (some ⟨w.heap.size, 0, none⟩))) (w.alloc ob)) (b : Bool) (hb : b = true) (dd : Tmp) (hdd : o.dst = some dd)
 (h : K { a with tmps := a.tmps.setIfInBounds dd (.pointer (some ⟨w.heap.size, 0, none⟩)) } (w.alloc ob)) : if b = true then o.wp P a w K Q else E := by
 subst hb
 rw [if_pos rfl]
 rw [← put_some hdd] at h
 unfold Oper.wp
 rw [hrun, Oper.upon_value]
 exact h
/-- One number more among the bounds. -/
theorem wp_hb_app {P : Program} {o : Oper} {a : Act} {K : Act → World → Prop} {Q : Exit → Act → World → Prop} {ty : TypeId} (hi : ∃ i z, P.info? ty = some i ∧ i.zero = some z ∧ i.size = 1 ∧ i.bytes = 8 ∧ z.cells.size = 1)
 {wo W : World} {cv : Array Value} {x15 x16 m : Nat} {T : TypeId} {cs : List Value} {s1 : Sl} {kvs : List KV} (hH : HB wo W cv x15 x16 m T cs s1 kvs) {v : Value} {j : Nat} {xs : List Value} (hown : W.ownsRow m ty 1 v j xs) (hj : j ≤ 1000) {y : Value} (hy : y.oneCell' = true)
 (s x : Operand) (t : TypeId) (ho : o.op = .call { callee := .builtin .append, args := #[s, x], argTypes := #[t, t] }) (hu : P.underlying t = some (.slice ty)) (hs : a.eval s = v) {gx : Nat} (hx : a.eval x = .slice (some ⟨gx, 0, none⟩) 1 1) (hgx : gx = W.heap.size) (dd : Tmp) (hdd : o.dst = some dd)
 (H : ∀ g cap w1, HB wo w1 cv x15 x16 m T cs s1 kvs → w1.ownsRow m ty 1 (.slice (some ⟨g, 0, none⟩) (j + 1) cap) (j + 1) (xs ++ [y]) → K { a with tmps := a.tmps.setIfInBounds dd (.slice (some ⟨g, 0, none⟩) (j + 1) cap) } w1) :
 Oper.wp P o a (W.alloc (.cells #[y] ty)) K Q := by
 subst hgx
 obtain ⟨i, z, i1, i2, i3, i4, i5⟩ := hi
 have hg0 : W.grownBy (W.alloc (.cells #[y] ty)) v.ownBlock := World.grownBy_alloc _ _ _
 refine wp_append_lies _ s x t ho m ty i z 1 8 hu i1 i2 i3 i4 i5 (by decide) v j _ hs (hown.alloc _) ⟨W.heap.size, 0, none⟩ 1 1 [y] hx (by simp) ?_ (by simpa using hy) (by decide) (by simp only [maxLen]; omega) (by omega) (by rw [World.size_alloc]; have := hH.a.2.2.2.2.2; omega) _ rfl ?_
 · have := World.news_of_block (heap_alloc_new W (.cells #[y] ty))
   simpa using this
 · (
 intro g cap w1 hown1 hg1 hvg hglt
 rw [put_some hdd]
 exact H g cap w1 (hH.grown (grownBy_trans hg0 hg1) (fun g hg => (hown.lt g hg).1)) hown1)
theorem HB.row {wo W : World} {cv : Array Value} {x15 x16 m : Nat} {ty : TypeId} {cs : List Value} {s1 : Sl} {kvs : List KV} (h : HB wo W cv x15 x16 m ty cs s1 kvs) (i : Nat) (u : Value) {e : TypeId} {v : Value} {j : Nat} {xs : List Value} (hown : W.ownsRow m e 1 v j xs) : (W.setCell ⟨x16, i, none⟩ u).ownsRow m e 1 v j xs :=
 own_of_block hown (fun g hg => heap_setCell_other _ _ _ _ (by have := (hown.lt g hg).1; have := h.a.2.2.2.2.1; show g ≠ x16; omega))
theorem HB.frozen {wo W : World} {cv : Array Value} {x15 x16 m : Nat} {ty : TypeId} {cs : List Value} {s1 : Sl} {kvs : List KV} (h : HB wo W cv x15 x16 m ty cs s1 kvs) (i : Nat) : W.frozen? ⟨x16, i, none⟩ = false := frozen_blk h.v16 i
/-- The point under way and its bounds. -/
structure HR (wo W : World) (cv : Array Value) (x15 x16 m : Nat) (ty : TypeId) (cs : List Value) (s1 : Sl) (kvs : List KV) (v : Value) (j : Nat) (xs : List Value) : Prop where
 hb : HB wo W cv x15 x16 m ty cs s1 kvs
 row : W.ownsRow m 73 1 v j xs
theorem HR.put {wo W : World} {cv : Array Value} {x15 x16 m : Nat} {ty : TypeId} {cs : List Value} {s1 : Sl} {kvs : List KV} {v : Value} {j : Nat} {xs : List Value} (h : HR wo W cv x15 x16 m ty cs s1 kvs v j xs) (i : Nat) (u : Value) : HR wo (W.setCell ⟨x16, i, none⟩ u) cv x15 x16 m ty (cs.set i u) s1 kvs v j xs :=
 ⟨h.hb.put i u, h.hb.row i u h.row⟩
theorem HR.below {wo W W1 : World} {cv : Array Value} {x15 x16 m : Nat} {ty : TypeId} {cs : List Value} {s1 : Sl} {kvs : List KV} {v : Value} {j : Nat} {xs : List Value} (h : HR wo W cv x15 x16 m ty cs s1 kvs v j xs) (hb : Below W.heap.size W W1) : HR wo W1 cv x15 x16 m ty cs s1 kvs v j xs :=
 ⟨h.hb.below hb, own_of_block h.row (fun g hg => hb.block g (h.row.lt g hg).2)⟩
section
variable {P : Program} {ops : Array Oper} {rest : List Oper} {a : Act} {Q : Exit → Act → World → Prop} {d : Option Tmp} {tt : TypeId} {ps : String} {af : Array Edge}
/-- Two cells stored into the midst of the point. -/
theorem arm_store_two {ty : TypeId} {x y : Operand} (hi : (P.info? ty).map (·.size) = some 2) {wo W : World} {cv : Array Value} {x15 x16 m : Nat} {T : TypeId} {cs : List Value} {s1 : Sl} {kvs : List KV} {rv : Value} {j : Nat} {xs : List Value} (hH : HR wo W cv x15 x16 m T cs s1 kvs rv j xs)
 {b o : Nat} {u v : Value} (hx : a.eval x = .pointer (some ⟨b, o, none⟩)) (hy : a.eval y = .agg #[u, v]) (hb : b = x16) (ho : o + 2 ≤ cs.length) (h1 : u.oneCell' = true) (h2 : v.oneCell' = true)
 (h : ∀ w', HR wo w' cv x15 x16 m T ((cs.set o u).set (o + 1) v) s1 kvs rv j xs → wpList P ops Q rest (a.put d undef) w') :
 wpList P ops Q (⟨d, .store ty x y, tt, ps, af, none⟩ :: rest) a W := by
 subst hb
 refine wpList_store_mid rfl ty x y rfl b o #[u, v] hx hy ?_ hi (by simp [h1, h2]) ?_
 · (
 intro j hj
 have hj' : j < 2 := hj
 rw [cell_of_row W b (o + j) _ _ _ hH.hb.v16]
 refine ⟨by simp; omega, ?_⟩
 simp [World.frozen?, hH.hb.v16])
 · exact h _ ((hH.put o u).put (o + 1) v)
end
/-- A row of one number. -/
theorem step_buildf {P : Program} {o : Oper} {a : Act} {w : World} {K : Act → World → Prop} {Q : Exit → Act → World → Prop} {E : Prop} (e t : TypeId) (x : Operand) (ho : o.op = .buildSlice t 1 #[(0, x)]) (hu : P.underlying t = some (.slice e))
 (hi : ∃ i z, P.info? e = some i ∧ i.zero = some z ∧ i.size = 1 ∧ i.bytes = 8 ∧ z.cells.size = 1) {y : Value} (hx : a.eval x = y) (hy : y.cells = #[y]) (b : Bool) (hb : b = true) (dd : Tmp) (hdd : o.dst = some dd)
 (h : K { a with tmps := a.tmps.setIfInBounds dd (.slice (some ⟨w.heap.size, 0, none⟩) 1 1) } (w.alloc (.cells #[y] e))) : if b = true then o.wp P a w K Q else E := by
 subst hb
 rw [← put_some hdd] at h
 rw [if_pos rfl]
 obtain ⟨i, z, h1, h2, h3, _, h4⟩ := hi
 refine wp_buildSlice t e 1 #[(0, x)] ho #[y] i z hu h1 h2 (by rw [h3]; omega) (by rw [h3]; omega) ?_ h
 have hf := Great.fill_whole (s := 1) (by decide) [y] ((Array.range (1 * 1)).map (z.cells[· % z.cells.size]!)) (by intro v hv; simp at hv; subst hv; rw [hy]; rfl) (by simp)
 rw [h3]
 have e2 : (#[(0, x)].map fun (i, x) => (i, a.eval x)).toList = [(0, y)] := by simp [hx]
 rw [e2]
 simpa [hy] using hf
theorem range_head {w : World} {b : Nat} {mid post : List Value} {e : TypeId} {fr : Nat × Nat} (h : w.heap[b]? = some (.cells (mid ++ post).toArray e fr)) : w.rangeAt b 0 mid := fun j v hv => by
 rw [Nat.zero_add]
 refine blk_cell h j v ?_
 have hj := (List.getElem?_eq_some_iff.1 hv).1
 simp only [List.getElem?_toArray]
 rw [List.getElem?_append_left hj]
 exact hv
/-- Ahead of the store of the point: its block, its set. -/
structure P9 (wo w9 : World) (x14 x15 x16 : Nat) (zs : Array Value) (ty : TypeId) (s1 : Sl) (kvs : List KV) : Prop where
 bel : Below wo.heap.size wo w9
 z : w9.heap[x16]? = some (.cells zs ty (0, 0))
 set : SetR w9 w9.heap.size s1 kvs
 lo : ∀ b o t, s1.A = some ⟨b, o, t⟩ → 0 < s1.n → wo.heap.size ≤ b ∧ b < w9.heap.size ∧ b ≠ x16
 a : wo.heap.size ≤ x15 ∧ wo.heap.size ≤ x16 ∧ x14 ≠ x16 ∧ x15 ≠ x16 ∧ x15 < w9.heap.size ∧ x16 < w9.heap.size
theorem set_low {w : World} {s : Sl} {l : List KV} (h : SetR w w.heap.size s l) {b o : Nat} {t} (e : s.A = some ⟨b, o, t⟩) (hn : 0 < s.n) : b < w.heap.size := by
 obtain ⟨b', o', e', g2, _⟩ := h.rd.mem hn
 rw [e] at e'
 injection e' with e'
 injection e' with e1 _ _
 omega
theorem P9.first {wo W w1 : World} {x14 x15 : Nat} {zs : Array Value} {ty : TypeId} {s1 : Sl} {kvs : List KV} (hW : Below wo.heap.size wo W) (hx : x14 < W.heap.size ∧ x15 < W.heap.size ∧ wo.heap.size ≤ W.heap.size ∧ (wo.heap.size ≤ x14 ∧ wo.heap.size ≤ x15))
 (hset : SetNew (W.alloc (.cells zs ty)) w1 s1 kvs) (hb : Below (W.alloc (.cells zs ty)).heap.size (W.alloc (.cells zs ty)) w1) : P9 wo w1 x14 x15 W.heap.size zs ty s1 kvs := by
 have hs := hb.size
 have h1 : (W.alloc (.cells zs ty)).heap.size = W.heap.size + 1 := by simp
 obtain ⟨a1, a2, a3, a4, a5⟩ := hx
 refine ⟨below_then hW hW.size ((((Below.refl _ _).alloc (Nat.le_refl _) _)).trans (hb.mono (by omega))), (hb.block _ (by omega)).trans (heap_alloc_new W _), hset.set, fun b o t e hn => ?_, by omega, by omega, by omega, by omega, by omega, by omega⟩
 have g1 := hset.new b o t e
 have g2 := set_low hset.set e hn
 exact ⟨by omega, g2, by omega⟩
theorem P9.last {wo W w1 : World} {x14 x15 : Nat} {zs : Array Value} {ty : TypeId} {s1 : Sl} {kvs : List KV} (hW : Below wo.heap.size wo W) (hx : x14 < W.heap.size ∧ x15 < W.heap.size ∧ wo.heap.size ≤ W.heap.size ∧ (wo.heap.size ≤ x14 ∧ wo.heap.size ≤ x15))
 (hset : SetNew W w1 s1 kvs) (hb : Below W.heap.size W w1) : P9 wo (w1.alloc (.cells zs ty)) x14 x15 w1.heap.size zs ty s1 kvs := by
 have hs := hb.size
 have h1 : (w1.alloc (.cells zs ty)).heap.size = w1.heap.size + 1 := by simp
 obtain ⟨a1, a2, a3, a4, a5⟩ := hx
 refine ⟨(below_then hW hW.size hb).alloc (by omega) _, heap_alloc_new w1 _, setR_kept (ok := fun _ => True) hset.set (fun _ _ _ _ _ => trivial) (fun b hb _ => Below.heap_alloc _ _ _ hb) (by omega), fun b o t e hn => ?_, by omega, by omega, by omega, by omega, by omega, by omega⟩
 have g1 := hset.new b o t e
 have g2 := set_low hset.set e hn
 exact ⟨by omega, by omega, by omega⟩
theorem P9.stored {wo w9 w3 : World} {x14 x15 x16 : Nat} {zs cs : Array Value} {ty : TypeId} {s1 : Sl} {kvs : List KV} {cv : Array Value} (h : P9 wo w9 x14 x15 x16 zs ty s1 kvs) (h31 : w3.heap[x16]? = some (.cells cs ty (0, 0))) (h32 : ∀ b', b' ≠ x16 → w3.heap[b']? = w9.heap[b']?)
 (h33 : ∀ B a, B ≤ x16 → Below B a w9 → Below B a w3) (h34 : w3.heap.size = w9.heap.size) (h15 : w3.heap[x15]? = some (.cells cv 61 (0, 0))) {cl : List Value} (hcl : cs = cl.toArray) : HR wo w3 cv x15 x16 w9.heap.size ty cl s1 kvs (.slice none 0 0) 0 [] := by
 obtain ⟨h1, h2, h3, h4, a1, a2, a3, a4, a5, a6⟩ := h
 subst hcl
 exact ⟨⟨h33 _ _ a2 h1, h15, h31, setR_kept (ok := fun b => b ≠ x16) h3 (fun b o t e hn => (h4 b o t e hn).2.2) (fun b _ hb => h32 b hb) (by omega), h4, a1, a2, a4, a5, a6, by omega⟩, World.ownsRow_nil _ _ _ _⟩
theorem wpList_dmj {P : Program} {ops : Array Oper} {rest : List Oper} {o : Oper} {a : Act} {Q : Exit → Act → World → Prop} {ty : TypeId} {sz by_ : Nat} (hi : ∃ i z, P.info? ty = some i ∧ i.zero = some z ∧ i.size = sz ∧ i.bytes = by_ ∧ z.cells.size = sz) (hby : by_ ≤ 1000) (hsz : 0 < sz)
 {w wr : World} {T x6 : Nat} {enc : Dot × Sl5 → List Value} {tail : List Value} {ms : List Dot} {v : Value} (h : DM w wr T ty sz enc x6 tail ms v) (hx6 : w.heap.size ≤ x6) {j : Nat} (hj : ms.length = j) (hm : j ≤ 1000) {q : Dot × Sl5} {cx : Array Value} (hcx : cx = (enc q).toArray) (hl : (enc q).length = sz) (hone : ∀ u ∈ enc q, u.oneCell' = true)
 (hq : PtK wr (fun b => v.ownBlock ≠ some b ∧ b ≠ x6) q.1 q.2) (hgd : o.guard = none) (s x : Operand) (t : TypeId)
 (ho : o.op = .call { callee := .builtin .append, args := #[s, x], argTypes := #[t, t] }) (hu : P.underlying t = some (.slice ty)) (hs : a.eval s = v) {gx : Nat} (hx : a.eval x = .slice (some ⟨gx, 0, none⟩) 1 1) (hgx : gx = wr.heap.size)
 (H : ∀ g cap w1, DM w (w1.setCell ⟨x6, 0, none⟩ (.slice (some ⟨g, 0, none⟩) (j + 1) cap)) T ty sz enc x6 tail (ms ++ [q.1]) (.slice (some ⟨g, 0, none⟩) (j + 1) cap) → w1.cell? ⟨x6, 0, none⟩ = some v → w1.frozen? ⟨x6, 0, none⟩ = false → (∀ b, b < wr.heap.size → v.ownBlock ≠ some b → w1.heap[b]? = wr.heap[b]?) → wpList P ops Q rest (a.put o.dst (.slice (some ⟨g, 0, none⟩) (j + 1) cap)) w1) :
 wpList P ops Q (o :: rest) a (wr.alloc (.cells cx ty)) := by
 subst hj
 exact wpList_dm hi hby hsz h hx6 hm hcx hl hone hq hgd s x t ho hu hs hx hgx H
def valC (d : Dot) (s : Sl5) : List Value := [.slice s.a.A s.a.n s.a.c, .int .u64 d.value, .int .u64 d.count, .int .u64 d.sum, .bool d.hasMin, .bool d.hasMax, .int .u64 d.min, .int .u64 d.max, .slice s.b.A s.b.n s.b.c, .slice s.k.A s.k.n s.k.c, .int .i32 d.scale, .int .u64 d.zero, .int .i32 d.posOff, .slice s.p.A s.p.n s.p.c, .int .i32 d.negOff, .slice s.n.A s.n.n s.n.c]
def numU (fl : Bool) (x : Int) : Value := if fl then .float .f64 x.toNat else .int .i64 x
def hpC (fl : Bool) (d : Dot) (s1 sk : Sl) (v mn hm mx hM : Value) : List Value := [.int .u64 (hashL (sortK d.attrs)), .slice s1.A s1.n s1.c, .int .i64 d.start, .int .i64 d.time, .int .u64 d.count, v, .slice sk.A sk.n sk.c, mn, hm, mx, hM, numV fl d.sum, .slice none 0 0]
def epC (fl : Bool) (d : Dot) (s1 sp sn : Sl) (mn hm mx hM : Value) : List Value := [.int .u64 (hashL (sortK d.attrs)), .slice s1.A s1.n s1.c, .int .i64 d.start, .int .i64 d.time, .int .u64 d.count, mn, hm, mx, hM, numV fl d.sum, .int .i32 d.scale, .int .u64 d.zero, .int .i32 d.posOff, .slice sp.A sp.n sp.c, .int .i32 d.negOff, .slice sn.A sn.n sn.c, .float .f64 0, .slice none 0 0]
structure HB0 (wo W : World) (cv : Array Value) (x15 : Nat) (ty : TypeId) (mk : Sl → List Value) (kvs : List KV) (s16 : Value) : Prop where
 ex : ∃ (x16 m : Nat) (s1 : Sl), s16 = .pointer (some ⟨x16, 0, none⟩) ∧ HR wo W cv x15 x16 m ty (mk s1) s1 kvs (.slice none 0 0) 0 []
structure HBL (wo W : World) (cv : Array Value) (x15 x16 m : Nat) (ty : TypeId) (mk : Value → List Value) (s1 : Sl) (kvs : List KV) (xs : List Int) (n : Nat) (i : Value) : Prop where
 ex : ∃ (j : Nat) (v : Value), j ≤ n ∧ i = .int .i64 j ∧ HR wo W cv x15 x16 m ty (mk v) s1 kvs v j ((xs.take j).map encF).flatten
theorem infoD73 : ∃ i z, Tryz.prog.info? 73 = some i ∧ i.zero = some z ∧ i.size = 1 ∧ i.bytes = 8 ∧ z.cells.size = 1 := infoD_of (by kernel_rfl)
theorem built175 (h : Int) (A : Option Addr) (n c : Nat) (st ti cnt : Int) (kA : Option Addr) (kn kc : Nat) (x : Int) : Tryz.prog.built 175 [(0, .agg #[.int .u64 h, .slice A n c]), (1, .agg #[.int .i64 st]), (2, .agg #[.int .i64 ti]), (3, .int .u64 cnt), (5, .slice kA kn kc), (8, .int .i64 x)] = some #[.int .u64 h, .slice A n c, .int .i64 st, .int .i64 ti, .int .u64 cnt, .slice none 0 0, .slice kA kn kc, .int .i64 0, .bool false, .int .i64 0, .bool false, .int .i64 x, .slice none 0 0] := by kernel_rfl
theorem built162 (h : Int) (A : Option Addr) (n c : Nat) (st ti cnt : Int) (kA : Option Addr) (kn kc : Nat) (x : Nat) : Tryz.prog.built 162 [(0, .agg #[.int .u64 h, .slice A n c]), (1, .agg #[.int .i64 st]), (2, .agg #[.int .i64 ti]), (3, .int .u64 cnt), (5, .slice kA kn kc), (8, .float .f64 x)] = some #[.int .u64 h, .slice A n c, .int .i64 st, .int .i64 ti, .int .u64 cnt, .slice none 0 0, .slice kA kn kc, .float .f64 0, .bool false, .float .f64 0, .bool false, .float .f64 x, .slice none 0 0] := by kernel_rfl
theorem built178 (h : Int) (A : Option Addr) (n c : Nat) (st ti cnt : Int) (x : Int) (sc ze po : Int) (pA : Option Addr) (pn pc : Nat) (ne : Int) (nA : Option Addr) (nn nc : Nat) : Tryz.prog.built 178 [(0, .agg #[.int .u64 h, .slice A n c]), (1, .agg #[.int .i64 st]), (2, .agg #[.int .i64 ti]), (3, .int .u64 cnt), (6, .int .i64 x), (7, .int .i32 sc), (8, .int .u64 ze), (9, .agg #[.int .i32 po, .slice pA pn pc]), (10, .agg #[.int .i32 ne, .slice nA nn nc])] = some #[.int .u64 h, .slice A n c, .int .i64 st, .int .i64 ti, .int .u64 cnt, .int .i64 0, .bool false, .int .i64 0, .bool false, .int .i64 x, .int .i32 sc, .int .u64 ze, .int .i32 po, .slice pA pn pc, .int .i32 ne, .slice nA nn nc, .float .f64 0, .slice none 0 0] := by kernel_rfl
theorem built167 (h : Int) (A : Option Addr) (n c : Nat) (st ti cnt : Int) (x : Nat) (sc ze po : Int) (pA : Option Addr) (pn pc : Nat) (ne : Int) (nA : Option Addr) (nn nc : Nat) : Tryz.prog.built 167 [(0, .agg #[.int .u64 h, .slice A n c]), (1, .agg #[.int .i64 st]), (2, .agg #[.int .i64 ti]), (3, .int .u64 cnt), (6, .float .f64 x), (7, .int .i32 sc), (8, .int .u64 ze), (9, .agg #[.int .i32 po, .slice pA pn pc]), (10, .agg #[.int .i32 ne, .slice nA nn nc])] = some #[.int .u64 h, .slice A n c, .int .i64 st, .int .i64 ti, .int .u64 cnt, .float .f64 0, .bool false, .float .f64 0, .bool false, .float .f64 x, .int .i32 sc, .int .u64 ze, .int .i32 po, .slice pA pn pc, .int .i32 ne, .slice nA nn nc, .float .f64 0, .slice none 0 0] := by kernel_rfl
end
section
theorem built61 {a1 a2 a3 : Int} {b4 b5 : Bool} {a6 a7 : Int} {A8 A9 : Option Addr} {n8 n9 c8 c9 : Nat} {a10 a11 a12 : Int} {A13 : Option Addr} {n13 c13 : Nat} {a14 : Int} {A15 : Option Addr} {n15 c15 : Nat} :
 Tryz.prog.built 61 [(1, .int .u64 a1), (2, .int .u64 a2), (3, .int .u64 a3), (4, .bool b4), (5, .bool b5), (6, .int .u64 a6), (7, .int .u64 a7), (8, .slice A8 n8 c8), (9, .slice A9 n9 c9), (10, .int .i32 a10), (11, .int .u64 a11), (12, .int .i32 a12), (13, .slice A13 n13 c13), (14, .int .i32 a14), (15, .slice A15 n15 c15)] = some #[.slice none 0 0, .int .u64 a1, .int .u64 a2, .int .u64 a3, .bool b4, .bool b5, .int .u64 a6, .int .u64 a7, .slice A8 n8 c8, .slice A9 n9 c9, .int .i32 a10, .int .u64 a11, .int .i32 a12, .slice A13 n13 c13, .int .i32 a14, .slice A15 n15 c15] := by kernel_rfl
theorem built63 {v1 v2 : Int} {a1 a2 a3 : Int} {b4 b5 : Bool} {a6 a7 : Int} {A8 A9 : Option Addr} {n8 n9 c8 c9 : Nat} {a10 a11 a12 : Int} {A13 : Option Addr} {n13 c13 : Nat} {a14 : Int} {A15 : Option Addr} {n15 c15 : Nat} :
 Tryz.prog.built 63 [(1, .int .i64 v1), (2, .int .i64 v2), (0, .agg #[.slice none 0 0, .int .u64 a1, .int .u64 a2, .int .u64 a3, .bool b4, .bool b5, .int .u64 a6, .int .u64 a7, .slice A8 n8 c8, .slice A9 n9 c9, .int .i32 a10, .int .u64 a11, .int .i32 a12, .slice A13 n13 c13, .int .i32 a14, .slice A15 n15 c15])] = some #[.slice none 0 0, .int .u64 a1, .int .u64 a2, .int .u64 a3, .bool b4, .bool b5, .int .u64 a6, .int .u64 a7, .slice A8 n8 c8, .slice A9 n9 c9, .int .i32 a10, .int .u64 a11, .int .i32 a12, .slice A13 n13 c13, .int .i32 a14, .slice A15 n15 c15, .int .i64 v1, .int .i64 v2] := by kernel_rfl
/-! ### Making data for the comparison -/
/-- A dot that is made, its slices in blocks that are let be. -/
structure DotK (w : World) (ok : Nat → Prop) (d : Dot) (s : Sl5) : Prop where
 pt : DotR w w.heap.size d s
 ok : ∀ t ∈ [s.a, s.b, s.k, s.p, s.n], ∀ b o sp, t.A = some ⟨b, o, sp⟩ → 0 < t.n → ok b
theorem rd_lt {w : World} {size : Nat} {t : Sl} {rows : List (List Value)} (h : Rd w w.heap.size size t.A t.n t.c rows) {b o : Nat} {sp} (e : t.A = some ⟨b, o, sp⟩) (hn : 0 < t.n) : b < w.heap.size := by
 obtain ⟨b', o', e', hb, _⟩ := h.mem hn
 rw [e] at e'
 injection e' with e'
 injection e' with e1 _ _
 omega
theorem DotK.step {w w' : World} {ok ok' : Nat → Prop} {d : Dot} {s : Sl5} (h : DotK w ok d s) (hk : ∀ b, b < w.heap.size → ok b → w'.heap[b]? = w.heap[b]?) (ho : ∀ b, b < w.heap.size → ok b → ok' b) (hs : w.heap.size ≤ w'.heap.size) : DotK w' ok' d s := by
 obtain ⟨⟨h1, h5, h6, h7, h8, h9⟩, hok⟩ := h
 have oa := hok s.a (by simp)
 have ob := hok s.b (by simp)
 have okk := hok s.k (by simp)
 have op := hok s.p (by simp)
 have on := hok s.n (by simp)
 refine ⟨⟨h1.stay oa hk hs, h5.stay (t := s.b) ob hk hs, h6.stay (t := s.k) okk hk hs, h7.stay (t := s.p) op hk hs, h8.stay (t := s.n) on hk hs, h9⟩, fun t ht b o sp e hn => ?_⟩
 have hlt : b < w.heap.size := by
  simp only [List.mem_cons, List.not_mem_nil, or_false] at ht
  rcases ht with rfl | rfl | rfl | rfl | rfl
  · exact rd_lt h1 e hn
  · exact rd_lt (t := s.b) h5 e hn
  · exact rd_lt (t := s.k) h6 e hn
  · exact rd_lt (t := s.p) h7 e hn
  · exact rd_lt (t := s.n) h8 e hn
 exact ho b hlt (hok t ht b o sp e hn)
/-- The dots that are made so far: in a row of the call's own, that the block x3 names. -/
structure DT (C : Nat → Prop) (w wr : World) (x2 x3 : Nat) (pre : List Value) (ms : List Dot) (v : Value) : Prop where
 ex : ∃ pts : List (Dot × Sl5), pts.map (·.1) = ms ∧ wr.ownsRow w.heap.size 63 18 v ms.length (pts.map fun x => dotCells x.1 x.2).flatten ∧ (∀ q ∈ pts, DotK wr (fun b => v.ownBlock ≠ some b ∧ b ≠ x3 ∧ b ≠ x2 ∧ C b) q.1 q.2)
 blk : wr.heap[x3]? = some (.cells (pre ++ [v]).toArray 30 (0, 0))
 ne : v.ownBlock ≠ some x3
 bel : Below w.heap.size w wr
theorem DT.below {C : Nat → Prop} {w wr w1 : World} {x2 x3 : Nat} {pre : List Value} {ms : List Dot} {v : Value} (h : DT C w wr x2 x3 pre ms v) (hb : Below wr.heap.size wr w1) : DT C w w1 x2 x3 pre ms v := by
 obtain ⟨⟨pts, h1, h2, h3⟩, h4, h5, h6⟩ := h
 exact ⟨⟨pts, h1, own_of_block h2 (fun g hg => hb.block g (h2.lt g hg).2), fun q hq => (h3 q hq).step (fun b hlt _ => hb.block b hlt) (fun b _ h => h) hb.size⟩, (hb.block _ (Array.getElem?_eq_some_iff.1 h4).1).trans h4, h5, below_then h6 h6.size hb⟩
theorem DT.slice {C : Nat → Prop} {w wr : World} {x2 x3 : Nat} {pre : List Value} {ms : List Dot} {v : Value} (h : DT C w wr x2 x3 pre ms v) : ∃ A c, v = .slice A ms.length c := by
 obtain ⟨⟨pts, h1, h2, h3⟩, _⟩ := h
 exact own_slice h2
theorem DT.grown {C : Nat → Prop} {w wr w1 : World} {x2 x3 : Nat} {pre : List Value} {ms : List Dot} {v v1 : Value} (h : DT C w wr x2 x3 pre ms v) (hx3 : w.heap.size ≤ x3) {q : Dot × Sl5} (hq : DotK wr (fun b => v.ownBlock ≠ some b ∧ b ≠ x3 ∧ b ≠ x2 ∧ C b) q.1 q.2)
 (ho : ∃ pts : List (Dot × Sl5), pts.map (·.1) = ms ∧ (∀ q ∈ pts, DotK wr (fun b => v.ownBlock ≠ some b ∧ b ≠ x3 ∧ b ≠ x2 ∧ C b) q.1 q.2) ∧ w1.ownsRow w.heap.size 63 18 v1 (ms.length + 1) ((pts.map fun x => dotCells x.1 x.2).flatten ++ dotCells q.1 q.2)) (hg : wr.grownBy w1 v.ownBlock) (hv : v1.ownBlock = v.ownBlock ∨ ∃ g, v1.ownBlock = some g ∧ wr.heap.size ≤ g) (k : Nat) (hk : k = pre.length) :
 DT C w (w1.setCell ⟨x3, k, none⟩ v1) x2 x3 pre (ms ++ [q.1]) v1 := by
 subst hk
 obtain ⟨pts, h1, h3, hown1⟩ := ho
 obtain ⟨⟨_, _, h2, _⟩, h4, h5, h6⟩ := h
 have hlt6 := (Array.getElem?_eq_some_iff.1 h4).1
 have hne1 : v1.ownBlock ≠ some x3 := by
  rcases hv with e | ⟨g, e, hge⟩
  · rw [e]; exact h5
  · rw [e]; intro e2; injection e2 with e2; omega
 have hb6 : w1.heap[x3]? = some (.cells (pre ++ [v]).toArray 30 (0, 0)) := (hg.block x3 hlt6 (Ne.symm h5)).trans h4
 have hoth : ∀ b, b ≠ x3 → (w1.setCell ⟨x3, pre.length, none⟩ v1).heap[b]? = w1.heap[b]? := fun b hb => heap_setCell_other _ _ _ _ hb
 have hss : (w1.setCell ⟨x3, pre.length, none⟩ v1).heap.size = w1.heap.size := by simp [World.setCell]
 have hkeep : ∀ (d : Dot) (s : Sl5), DotK wr (fun b => v.ownBlock ≠ some b ∧ b ≠ x3 ∧ b ≠ x2 ∧ C b) d s → DotK (w1.setCell ⟨x3, pre.length, none⟩ v1) (fun b => v1.ownBlock ≠ some b ∧ b ≠ x3 ∧ b ≠ x2 ∧ C b) d s := fun d s hp =>
  hp.step (fun b hlt hok => (hoth b hok.2.1).trans (hg.block b hlt (Ne.symm hok.1))) (fun b hlt hok => ⟨by
   rcases hv with e | ⟨g, e, hge⟩
   · rw [e]; exact hok.1
   · rw [e]; intro e2; injection e2 with e2; omega, hok.2⟩) (by rw [hss]; exact hg.size)
 refine ⟨⟨pts ++ [q], by simp [h1], ?_, fun r hr => ?_⟩, ?_, hne1, ?_⟩
 · (
 have e1 : ((pts ++ [q]).map fun x => dotCells x.1 x.2).flatten = (pts.map fun x => dotCells x.1 x.2).flatten ++ dotCells q.1 q.2 := by simp
 rw [e1, List.length_append, List.length_singleton]
 exact own_of_block hown1 (fun g hg2 => hoth g (fun e => hne1 (by rw [hg2, e]))))
 · (
 rcases List.mem_append.1 hr with hr | hr
 · exact hkeep _ _ (h3 r hr)
 · simp at hr; subst hr; exact hkeep _ _ hq)
 · rw [heap_setCell_same w1 x3 _ _ _ _ hb6]
   simp
 · exact ((h6.grown hg h6.size (fun k hk => (h2.lt k hk).1))).setCell hx3 _
/-- A dot appended to those that are made. -/
theorem wpList_dt {C : Nat → Prop} {P : Program} {ops : Array Oper} {rest : List Oper} {o : Oper} {a : Act} {Q : Exit → Act → World → Prop} {by_ : Nat} (hi : ∃ i z, P.info? 63 = some i ∧ i.zero = some z ∧ i.size = 18 ∧ i.bytes = by_ ∧ z.cells.size = 18) (hby : by_ ≤ 1000)
 {w wr : World} {x2 x3 : Nat} {pre : List Value} {ms : List Dot} {v : Value} (h : DT C w wr x2 x3 pre ms v) (hx3 : w.heap.size ≤ x3) {j : Nat} (hj : ms.length = j) (hm : j ≤ 1000) {q : Dot × Sl5} {cx : Array Value} (hcx : cx = (dotCells q.1 q.2).toArray)
 (hq : DotK wr (fun b => v.ownBlock ≠ some b ∧ b ≠ x3 ∧ b ≠ x2 ∧ C b) q.1 q.2) (hgd : o.guard = none) (s x : Operand) (t : TypeId)
 (ho : o.op = .call { callee := .builtin .append, args := #[s, x], argTypes := #[t, t] }) (hu : P.underlying t = some (.slice 63)) (hs : a.eval s = v) {gx : Nat} (hx : a.eval x = .slice (some ⟨gx, 0, none⟩) 1 1) (hgx : gx = wr.heap.size) (k : Nat) (hk : k = pre.length)
 (H : ∀ g cap w1, DT C w (w1.setCell ⟨x3, k, none⟩ (.slice (some ⟨g, 0, none⟩) (j + 1) cap)) x2 x3 pre (ms ++ [q.1]) (.slice (some ⟨g, 0, none⟩) (j + 1) cap) → w1.cell? ⟨x3, k, none⟩ = some v → w1.frozen? ⟨x3, k, none⟩ = false → wpList P ops Q rest (a.put o.dst (.slice (some ⟨g, 0, none⟩) (j + 1) cap)) w1) :
 wpList P ops Q (o :: rest) a (wr.alloc (.cells cx 63)) := by
 refine wpList_plain hgd fun K hK => ?_
 subst hgx hcx hk hj
 have h' := h
 obtain ⟨⟨pts, h1, h2, h3⟩, h4, h5, h6⟩ := h'
 obtain ⟨i, z, i1, i2, i3, i4, i5⟩ := hi
 have hg0 : wr.grownBy (wr.alloc (.cells (dotCells q.1 q.2).toArray 63)) v.ownBlock := World.grownBy_alloc _ _ _
 have hown : (wr.alloc (.cells (dotCells q.1 q.2).toArray 63)).ownsRow w.heap.size 63 18 v ms.length (pts.map fun x => dotCells x.1 x.2).flatten := h2.alloc _
 refine wp_append_lies _ s x t ho w.heap.size 63 i z 18 by_ hu i1 i2 i3 i4 i5 (by decide) v ms.length _ hs hown ⟨wr.heap.size, 0, none⟩ 1 1 (dotCells q.1 q.2) hx rfl ?_ ?_ (by decide) (by simp only [maxLen]; omega) ?_ (by rw [World.size_alloc]; have := h6.size; omega) _ rfl ?_
 · have := World.news_of_block (heap_alloc_new wr (.cells (dotCells q.1 q.2).toArray 63))
   simpa using this
 · (
 intro u hu
 have : (dotCells q.1 q.2).all (·.oneCell') = true := rfl
 exact List.all_eq_true.1 this u hu)
 · have : (ms.length + 1) * by_ ≤ 1001 * 1000 := Nat.mul_le_mul (by omega) hby
   omega
 · (
 intro g cap w1 hown1 hg1 hvg hglt
 have hgt := grownBy_trans hg0 hg1
 have hlt6 := (Array.getElem?_eq_some_iff.1 h4).1
 have hb6 : w1.heap[x3]? = some (.cells (pre ++ [v]).toArray 30 (0, 0)) := (hgt.block x3 hlt6 (Ne.symm h5)).trans h4
 refine hK _ _ (H g cap w1 (h.grown hx3 hq ⟨pts, h1, h3, hown1⟩ hgt ?_ _ rfl) (blk_cell hb6 _ _ (by simp)) (frozen_blk hb6 _))
 rcases hvg with e | e
 · exact .inl e.symm
 · (
 refine .inr ⟨g, rfl, ?_⟩
 rw [World.size_alloc] at e
 omega))
/-! ### A dot under way: its attributes -/
structure TB (wo W : World) (x7 m : Nat) (cs : List Value) (v : Value) (j : Nat) (xs : List Value) : Prop where
 bel : Below wo.heap.size wo W
 blk : W.heap[x7]? = some (.cells (v :: cs).toArray 63 (0, 0))
 own : W.ownsRow m 58 2 v j xs
 a : wo.heap.size ≤ x7 ∧ x7 < m ∧ m ≤ W.heap.size
theorem TB.below {wo W W1 : World} {x7 m : Nat} {cs : List Value} {v : Value} {j : Nat} {xs : List Value} (h : TB wo W x7 m cs v j xs) (hb : Below W.heap.size W W1) : TB wo W1 x7 m cs v j xs := by
 obtain ⟨h1, h2, h3, h4, h5, h6⟩ := h
 exact ⟨below_then h1 h1.size hb, (hb.block _ (by omega)).trans h2, own_of_block h3 (fun g hg => hb.block g (h3.lt g hg).2), h4, h5, by have := hb.size; omega⟩
theorem wpList_tb {P : Program} {ops : Array Oper} {rest : List Oper} {o : Oper} {a : Act} {Q : Exit → Act → World → Prop} {by_ : Nat} (hi : ∃ i z, P.info? 58 = some i ∧ i.zero = some z ∧ i.size = 2 ∧ i.bytes = by_ ∧ z.cells.size = 2) (hby : by_ ≤ 1000)
 {wo W : World} {x7 m : Nat} {cs : List Value} {v : Value} {j : Nat} {xs : List Value} (h : TB wo W x7 m cs v j xs) (hm : j ≤ 1000) {y : KV} {cx : Array Value} (hcx : cx = (enc2 y).toArray) (hgd : o.guard = none) (s x : Operand) (t : TypeId)
 (ho : o.op = .call { callee := .builtin .append, args := #[s, x], argTypes := #[t, t] }) (hu : P.underlying t = some (.slice 58)) (hs : a.eval s = v) {gx : Nat} (hx : a.eval x = .slice (some ⟨gx, 0, none⟩) 1 1) (hgx : gx = W.heap.size)
 (H : ∀ g cap w1, TB wo (w1.setCell ⟨x7, 0, none⟩ (.slice (some ⟨g, 0, none⟩) (j + 1) cap)) x7 m cs (.slice (some ⟨g, 0, none⟩) (j + 1) cap) (j + 1) (xs ++ enc2 y) → w1.cell? ⟨x7, 0, none⟩ = some v → w1.frozen? ⟨x7, 0, none⟩ = false → wpList P ops Q rest (a.put o.dst (.slice (some ⟨g, 0, none⟩) (j + 1) cap)) w1) :
 wpList P ops Q (o :: rest) a (W.alloc (.cells cx 58)) := by
 refine wpList_plain hgd fun K hK => ?_
 subst hgx hcx
 obtain ⟨h1, h2, h3, h4, h5, h6⟩ := h
 obtain ⟨i, z, i1, i2, i3, i4, i5⟩ := hi
 have hg0 : W.grownBy (W.alloc (.cells (enc2 y).toArray 58)) v.ownBlock := World.grownBy_alloc _ _ _
 have hown := h3.alloc (.cells (enc2 y).toArray 58)
 refine wp_append_lies _ s x t ho m 58 i z 2 by_ hu i1 i2 i3 i4 i5 (by decide) v j _ hs hown ⟨W.heap.size, 0, none⟩ 1 1 (enc2 y) hx rfl ?_ ?_ (by decide) (by simp only [maxLen]; omega) ?_ (by rw [World.size_alloc]; omega) _ rfl ?_
 · have := World.news_of_block (heap_alloc_new W (.cells (enc2 y).toArray 58))
   simpa using this
 · (
 intro u hu
 have : (enc2 y).all (·.oneCell') = true := rfl
 exact List.all_eq_true.1 this u hu)
 · have : (j + 1) * by_ ≤ 1001 * 1000 := Nat.mul_le_mul (by omega) hby
   omega
 · (
 intro g cap w1 hown1 hg1 hvg hglt
 have hgt := grownBy_trans hg0 hg1
 have hvm : ∀ k, v.ownBlock = some k → m ≤ k := fun k hk => (h3.lt k hk).1
 have hb7 : w1.heap[x7]? = some (.cells (v :: cs).toArray 63 (0, 0)) := (hgt.block x7 (by omega) (fun e => by have := hvm x7 e.symm; omega)).trans h2
 have hoth : ∀ b, b ≠ x7 → (w1.setCell ⟨x7, 0, none⟩ (.slice (some ⟨g, 0, none⟩) (j + 1) cap)).heap[b]? = w1.heap[b]? := fun b hb => heap_setCell_other _ _ _ _ hb
 refine hK _ _ (H g cap w1 ⟨(h1.grown hgt h1.size (fun k hk => by have := hvm k hk; omega)).setCell h4 _, ?_, own_of_block hown1 (fun g' hg' => hoth g' (fun e => by have := (hown1.lt g' hg').1; omega)), h4, h5, ?_⟩ (blk_cell hb7 _ _ (by simp)) (frozen_blk hb7 _))
 · rw [heap_setCell_same w1 x7 0 _ _ _ hb7]
   simp
 · (
 have := hgt.size
 simp [World.setCell]
 omega))
theorem rd_of_row {w : World} {m j : Nat} {v : Value} {l : List KV} (h : w.ownsRow m 58 2 v j (l.map enc2).flatten) (hl : l.length = j) (hj : j ≤ 1000) : ∃ A c, v = .slice A j c ∧ Rd w w.heap.size 2 A j c (l.map enc2) ∧ ∀ b o t, A = some ⟨b, o, t⟩ → m ≤ b := by
 obtain ⟨A, c, rfl, hrd, hlt⟩ := rd_of_own h (fun r hr => by obtain ⟨q, _, rfl⟩ := List.mem_map.1 hr; rfl) (by rw [List.length_map, hl]) (by omega)
 exact ⟨A, c, rfl, hrd, fun b o t e => (hlt b o t e).1⟩
/-- What is handed back lies apart. -/
structure Off (C : Nat → Prop) (A : Option Addr) (n : Nat) (l : List (Dot × Sl5)) : Prop where
 row : ∀ b o t, A = some ⟨b, o, t⟩ → 0 < n → C b
 ins : ∀ x ∈ l, ∀ t ∈ [x.2.a, x.2.b, x.2.k, x.2.p, x.2.n], ∀ b o sp, t.A = some ⟨b, o, sp⟩ → 0 < t.n → C b
theorem DotsR.apart {w w' : World} {A : Option Addr} {n c : Nat} {l : List (Dot × Sl5)} {C : Nat → Prop} (h : DotsR w w.heap.size A n c l) (ho : Off C A n l) (hk : ∀ b, b < w.heap.size → C b → w'.heap[b]? = w.heap[b]?) (hs : w.heap.size ≤ w'.heap.size) : DotsR w' w'.heap.size A n c l :=
 ⟨h.rd.stay (t := ⟨A, n, c⟩) (fun b o sp e hn => ho.row b o sp e hn) hk hs, fun x hx => (DotK.step (ok' := fun _ => True) ⟨h.all x hx, ho.ins x hx⟩ hk (fun _ _ _ => trivial) hs).pt⟩
theorem info30' : (Tryz.prog.info? 30).map (·.size) = some 5 := by kernel_rfl
theorem info46' : (Tryz.prog.info? 46).map (·.size) = some 2 := by kernel_rfl
theorem infoD63 : ∃ i z, Tryz.prog.info? 63 = some i ∧ i.zero = some z ∧ i.size = 18 ∧ i.bytes = 216 ∧ z.cells.size = 18 := infoD_of (by kernel_rfl)
theorem infoD58 : ∃ i z, Tryz.prog.info? 58 = some i ∧ i.zero = some z ∧ i.size = 2 ∧ i.bytes = 32 ∧ z.cells.size = 2 := infoD_of (by kernel_rfl)
theorem rdb_lt {w : World} {B size : Nat} {t : Sl} {rows : List (List Value)} (h : Rd w B size t.A t.n t.c rows) {b o : Nat} {sp} (e : t.A = some ⟨b, o, sp⟩) (hn : 0 < t.n) : b < B := by
 obtain ⟨b', o', e', hb, _⟩ := h.mem hn
 rw [e] at e'
 injection e' with e'
 injection e' with e1 _ _
 omega
def tailC (d : Dot) (s : Sl5) : List Value := [.int .u64 d.value, .int .u64 d.count, .int .u64 d.sum, .bool d.hasMin, .bool d.hasMax, .int .u64 d.min, .int .u64 d.max, .slice s.b.A s.b.n s.b.c, .slice s.k.A s.k.n s.k.c, .int .i32 d.scale, .int .u64 d.zero, .int .i32 d.posOff, .slice s.p.A s.p.n s.p.c, .int .i32 d.negOff, .slice s.n.A s.n.n s.n.c, .int .i64 d.start, .int .i64 d.time]
structure TBL (wo W : World) (x7 m : Nat) (cs : List Value) (kvs : List KV) (n : Nat) (i : Value) : Prop where
 ex : ∃ (j : Nat) (v : Value), j ≤ n ∧ i = .int .i64 j ∧ TB wo W x7 m cs v j ((kvs.take j).map enc2).flatten
structure C10R (C : Nat → Prop) (w W0 : World) (n : Nat) (pre : List Value) (x2 x3 : Nat) (l : List (Dot × Sl5)) (i : Value) (wr : World) : Prop where
 ex : ∃ (k : Nat) (v : Value), k ≤ n ∧ i = .int .i64 k ∧ DT C W0 wr x2 x3 pre ((l.take k).map (·.1)) v
set_option maxRecDepth 100000 in
set_option maxHeartbeats 4000000 in
theorem c10 (B0 : Nat) (kd : Int) (fl dl mo : Bool) (A : Option Addr) (n c : Nat) (l : List (Dot × Sl5)) (w : World) (hB0 : B0 ≤ w.heap.size) (h : DotsR w B0 A n c l) (hn : n ≤ 900) (hat : ∀ x ∈ l, x.1.attrs.length ≤ 900) :
 Calls Tryz.prog 10 #[.agg #[.int .u8 kd, .bool fl, .bool dl, .bool mo, .slice A n c]] w fun e w' => ∃ (A' : Option Addr) (c' : Nat) (l' : List (Dot × Sl5)), e = .returned (.agg #[.int .u8 kd, .bool fl, .bool dl, .bool mo, .slice A' n c']) ∧ l'.map (·.1) = l.map (·.1) ∧ DotsR w' w'.heap.size A' n c' l' ∧ Off (fun b => b < B0 ∨ w.heap.size ≤ b) A' n l' ∧ Below w.heap.size w w' := by
 obtain ⟨C, hC⟩ : ∃ C : Nat → Prop, C = fun b => b < B0 ∨ w.heap.size ≤ b := ⟨_, rfl⟩
 rw [← hC]
 have HC := Lib.hid hC
 clear hC
 have hlen := h.rd.numlen
 have H := Lib.hid h
 have HAT := Lib.hid hat
 have HLEN := Lib.hid hlen
 clear h hat hlen
 obtain ⟨W0, hW0⟩ : ∃ W0, W0 = (w.alloc (.cells #[.int .u8 kd, .bool fl, .bool dl, .bool mo, .slice A n c] 24)).alloc (.cells #[.int .u8 0, .bool false, .bool false, .bool false, .slice none 0 0] 30) := ⟨_, rfl⟩
 have hb : Below w.heap.size w W0 := by rw [hW0]; exact ((Below.refl _ _).alloc (Nat.le_refl _) _).alloc (by simp) _
 have hs0 : W0.heap.size = w.heap.size + 2 := by rw [hW0]; simp
 obtain ⟨x2, hx2⟩ : ∃ x, x = w.heap.size + 1 := ⟨_, rfl⟩
 have y0 : W0.cell? ⟨w.heap.size, 0, none⟩ = some (.int .u8 kd) := by rw [hW0]; simp [go_sem]
 have y1 : W0.cell? ⟨w.heap.size, 1, none⟩ = some (.bool fl) := by rw [hW0]; simp [go_sem]
 have y2 : W0.cell? ⟨w.heap.size, 2, none⟩ = some (.bool dl) := by rw [hW0]; simp [go_sem]
 have y3 : W0.cell? ⟨w.heap.size, 3, none⟩ = some (.bool mo) := by rw [hW0]; simp [go_sem]
 have y4 : W0.cell? ⟨w.heap.size, 4, none⟩ = some (.slice A n c) := by rw [hW0]; simp [go_sem]
 have z2 : W0.heap[x2]? = some (.cells #[.int .u8 0, .bool false, .bool false, .bool false, .slice none 0 0] 30 (0, 0)) := by
  rw [hW0, hx2]
  have := heap_alloc_new (w.alloc (.cells #[.int .u8 kd, .bool fl, .bool dl, .bool mo, .slice A n c] 24)) (.cells #[.int .u8 0, .bool false, .bool false, .bool false, .slice none 0 0] 30)
  simpa using this
 obtain ⟨x3, hx3⟩ : ∃ x, x = W0.heap.size := ⟨_, rfl⟩
 obtain ⟨W1, hW1⟩ : ∃ W1, W1 = W0.alloc (.cells #[.int .u8 kd, .bool fl, .bool dl, .bool mo, .slice none 0 0] 30) := ⟨_, rfl⟩
 have hb1 : Below W0.heap.size W0 W1 := bq hW1
 have y4' := cellk y4 hb1
 have hz3 : W1.heap[x3]? = some (.cells #[.int .u8 kd, .bool fl, .bool dl, .bool mo, .slice none 0 0] 30 (0, 0)) := by rw [hW1, hx3]; exact heap_alloc_new W0 _
 obtain ⟨pre, hpre⟩ : ∃ pre : List Value, pre = [.int .u8 kd, .bool fl, .bool dl, .bool mo] := ⟨_, rfl⟩
 have hdt0 : DT C W0 W1 x2 x3 pre [] (.slice none 0 0) := ⟨⟨[], rfl, World.ownsRow_nil _ _ _ _, by simp⟩, by rw [hz3, hpre]; rfl, by simp [Value.ownBlock], hb1⟩
 have HDT0 := Lib.hid hdt0
 have HW := Lib.hid hW0
 have HW1 := Lib.hid hW1
 have HX2 := Lib.hid hx2
 have HX3 := Lib.hid hx3
 have HPRE := Lib.hid hpre
 have HS0 := Lib.hid hs0
 have HB := Lib.hid hb
 have HZ2 := Lib.hid z2
 have hx3' : W0.heap.size ≤ x3 := by omega
 clear hW0 hW1 hb hb1 hz3 hdt0 hx3 hs0 z2 hpre hx2
 go_enter Tryz.func10, Tryz.ntmps10
 go_upto_region 1 with fail
 rw [← HW.out, ← HX2.out]
 try simp only [Act.put]
 as_aux_lemma => (
 go_upto_region 2 with ((with_reducible apply arm_store_new 5 info30'); rfl; simp; rfl; rfl; rfl; rfl)
 rw [← HW1.out, ← HX3.out]
 try simp only [Act.put]
 go_upto_region 3 with fail
 as_aux_lemma => (
 go_loopw [5, 6, 7, 9, 22] (fun _ _ _ _ i wr => C10R C w W0 n pre x2 x3 l i wr) (fun _ _ _ _ i _ => n - (intOf i).toNat)
 case atStart => exact ⟨0, _, Nat.zero_le _, rfl, HDT0.out⟩
 case round => (
 obtain ⟨k, v, hk, rfl, hdt⟩ := hrel.ex
 obtain ⟨wo, rfl⟩ : ∃ wo : World, wo = wr := ⟨_, rfl⟩
 have hml : ((l.take k).map (·.1)).length = k := by rw [List.length_map, List.length_take]; have := HLEN.out; omega
 obtain ⟨vA, vc, hv⟩ := hdt.slice
 rw [hml] at hv
 subst hv
 have HDT := Lib.hid hdt
 have HML := Lib.hid hml
 have HOW : Hid (∀ g, (Value.slice vA k vc).ownBlock = some g → W0.heap.size ≤ g ∧ g < wo.heap.size) := Lib.hid (by obtain ⟨pts, _, h2, _⟩ := hdt.ex; exact h2.lt)
 have hx3l : x3 < wo.heap.size := (Array.getElem?_eq_some_iff.1 hdt.blk).1
 have hb0 : Below w.heap.size w wo := below_then HB.out HB.out.size hdt.bel
 have HB0 := Lib.hid hb0
 clear hrel hdt hml hb0
 by_cases hlt : k < n
 · (
 obtain ⟨ba, oa, d, s, rfl, hbB, hx, hd, ca⟩ := (H.out.below (HB0.out.mono hB0)).at_ hlt
 have hxm := List.mem_of_getElem? hx
 have HTK : Hid ((l.take (k + 1)).map (·.1) = (l.take k).map (·.1) ++ [d]) := Lib.hid (by
  obtain ⟨hk', he⟩ := List.getElem?_eq_some_iff.1 hx
  rw [List.take_succ_eq_append_getElem hk', List.map_append, he]; rfl)
 have HD : Hid (DotR w B0 d s) := Lib.hid (H.out.all _ hxm)
 have HAN : Hid (d.attrs.length ≤ 900) := Lib.hid (HAT.out _ hxm)
 have HAE : Hid (s.a.n = d.attrs.length) := Lib.hid (by have := HD.out.a.numlen; simpa using this.symm)
 obtain ⟨vl, hvl⟩ : ∃ vl, vl = ptCells d s := ⟨_, rfl⟩
 obtain ⟨tl, htl⟩ : ∃ tl, tl = tailC d s := ⟨_, rfl⟩
 obtain ⟨cx, hcx⟩ : ∃ cx, cx = (vl ++ ([.int .i64 d.start, .int .i64 d.time] : List Value)).toArray := ⟨_, rfl⟩
 have hcd : dotCells d s = vl ++ ([.int .i64 d.start, .int .i64 d.time] : List Value) := by rw [hvl]; rfl
 have sx : cx.size = 18 := by rw [hcx, hvl]; rfl
 have ox : cx.toList.all (·.oneCell') = true := by rw [hcx, hvl]; rfl
 have ca2 : wo.rangeAt ba (oa + k * 18) cx.toList := by rw [hcx, ← hcd]; exact ca
 have HSV : Hid (vl.length = 16) := Lib.hid (by rw [hvl]; rfl)
 have HSV2 : Hid (vl.toArray.size = 16) := Lib.hid (by rw [hvl]; rfl)
 have HOV : Hid (vl.toArray.toList.all (·.oneCell') = true) := Lib.hid (by rw [hvl]; rfl)
 obtain ⟨x5, hx5⟩ : ∃ x, x = wo.heap.size := ⟨_, rfl⟩
 obtain ⟨W2, hW2⟩ : ∃ W2, W2 = wo.alloc (.cells cx 42) := ⟨_, rfl⟩
 obtain ⟨x6, hx6⟩ : ∃ x, x = W2.heap.size := ⟨_, rfl⟩
 obtain ⟨W3, hW3⟩ : ∃ W3, W3 = W2.alloc (.cells vl.toArray 40) := ⟨_, rfl⟩
 obtain ⟨x7, hx7⟩ : ∃ x, x = W3.heap.size := ⟨_, rfl⟩
 obtain ⟨W4, hW4⟩ : ∃ W4, W4 = W3.alloc (.cells #[.slice none 0 0, .int .u64 d.value, .int .u64 d.count, .int .u64 d.sum, .bool d.hasMin, .bool d.hasMax, .int .u64 d.min, .int .u64 d.max, .slice s.b.A s.b.n s.b.c, .slice s.k.A s.k.n s.k.c, .int .i32 d.scale, .int .u64 d.zero, .int .i32 d.posOff, .slice s.p.A s.p.n s.p.c, .int .i32 d.negOff, .slice s.n.A s.n.n s.n.c, .int .i64 d.start, .int .i64 d.time] 63) := ⟨_, rfl⟩
 have hb2 : Below wo.heap.size wo W2 := bq hW2
 have hb3 : Below W2.heap.size W2 W3 := bq hW3
 have hb4 : Below W3.heap.size W3 W4 := bq hW4
 have hs2 : W2.heap.size = wo.heap.size + 1 := by rw [hW2]; simp
 have hs3 : W3.heap.size = W2.heap.size + 1 := by rw [hW3]; simp
 have hs4 : W4.heap.size = W3.heap.size + 1 := by rw [hW4]; simp
 have z5 : W2.heap[x5]? = some (.cells (vl ++ ([.int .i64 d.start, .int .i64 d.time] : List Value)).toArray 42 (0, 0)) := by rw [hx5, hW2, ← hcx]; exact heap_alloc_new wo _
 have cav : W2.rangeAt x5 0 vl := range_head z5
 have z5b : W3.heap[x5]? = some (.cells (vl ++ ([.int .i64 d.start, .int .i64 d.time] : List Value)).toArray 42 (0, 0)) := (hb3.block _ (by omega)).trans z5
 have z6 : W3.heap[x6]? = some (.cells vl.toArray 40 (0, 0)) := by rw [hx6, hW3]; exact heap_alloc_new W2 _
 have z6b : W4.heap[x6]? = some (.cells vl.toArray 40 (0, 0)) := (hb4.block _ (by omega)).trans z6
 have z7 : W4.heap[x7]? = some (.cells (Value.slice none 0 0 :: tl).toArray 63 (0, 0)) := by rw [hx7, hW4, htl]; exact heap_alloc_new W3 _
 have f6_1 : W3.cell? ⟨x6, 1, none⟩ = some (.int .u64 d.value) := blk_cell z6 1 _ (by rw [hvl]; rfl)
 have f6_2 : W3.cell? ⟨x6, 2, none⟩ = some (.int .u64 d.count) := blk_cell z6 2 _ (by rw [hvl]; rfl)
 have f6_3 : W3.cell? ⟨x6, 3, none⟩ = some (.int .u64 d.sum) := blk_cell z6 3 _ (by rw [hvl]; rfl)
 have f6_4 : W3.cell? ⟨x6, 4, none⟩ = some (.bool d.hasMin) := blk_cell z6 4 _ (by rw [hvl]; rfl)
 have f6_5 : W3.cell? ⟨x6, 5, none⟩ = some (.bool d.hasMax) := blk_cell z6 5 _ (by rw [hvl]; rfl)
 have f6_6 : W3.cell? ⟨x6, 6, none⟩ = some (.int .u64 d.min) := blk_cell z6 6 _ (by rw [hvl]; rfl)
 have f6_7 : W3.cell? ⟨x6, 7, none⟩ = some (.int .u64 d.max) := blk_cell z6 7 _ (by rw [hvl]; rfl)
 have f6_8 : W3.cell? ⟨x6, 8, none⟩ = some (.slice s.b.A s.b.n s.b.c) := blk_cell z6 8 _ (by rw [hvl]; rfl)
 have f6_9 : W3.cell? ⟨x6, 9, none⟩ = some (.slice s.k.A s.k.n s.k.c) := blk_cell z6 9 _ (by rw [hvl]; rfl)
 have f6_10 : W3.cell? ⟨x6, 10, none⟩ = some (.int .i32 d.scale) := blk_cell z6 10 _ (by rw [hvl]; rfl)
 have f6_11 : W3.cell? ⟨x6, 11, none⟩ = some (.int .u64 d.zero) := blk_cell z6 11 _ (by rw [hvl]; rfl)
 have f6_12 : W3.cell? ⟨x6, 12, none⟩ = some (.int .i32 d.posOff) := blk_cell z6 12 _ (by rw [hvl]; rfl)
 have f6_13 : W3.cell? ⟨x6, 13, none⟩ = some (.slice s.p.A s.p.n s.p.c) := blk_cell z6 13 _ (by rw [hvl]; rfl)
 have f6_14 : W3.cell? ⟨x6, 14, none⟩ = some (.int .i32 d.negOff) := blk_cell z6 14 _ (by rw [hvl]; rfl)
 have f6_15 : W3.cell? ⟨x6, 15, none⟩ = some (.slice s.n.A s.n.n s.n.c) := blk_cell z6 15 _ (by rw [hvl]; rfl)
 have f5_16 : W3.cell? ⟨x5, 16, none⟩ = some (.int .i64 d.start) := blk_cell z5b 16 _ (by rw [hvl]; rfl)
 have f5_17 : W3.cell? ⟨x5, 17, none⟩ = some (.int .i64 d.time) := blk_cell z5b 17 _ (by rw [hvl]; rfl)
 have u60 : W4.cell? ⟨x6, 0, none⟩ = some (.slice s.a.A s.a.n s.a.c) := blk_cell z6b 0 _ (by rw [hvl]; rfl)
 have HTB0 : Hid (TB wo W4 x7 W4.heap.size tl (.slice none 0 0) 0 []) := Lib.hid ⟨below_then (below_then hb2 hb2.size hb3) (by omega) hb4, z7, World.ownsRow_nil _ _ _ _, by omega, by omega, Nat.le_refl _⟩
 have HM : Hid (wo.heap.size ≤ W4.heap.size) := Lib.hid (by omega)
 obtain ⟨m, hm⟩ : ∃ m, m = W4.heap.size := ⟨_, rfl⟩
 rw [← hm] at HTB0 HM
 have HVL := Lib.hid hvl
 have HTL := Lib.hid htl
 have HW2 := Lib.hid hW2
 have HW3 := Lib.hid hW3
 have HW4 := Lib.hid hW4
 have HX5 := Lib.hid hx5
 have HX6 := Lib.hid hx6
 have HX7 := Lib.hid hx7
 have i0 : (0 : Int) ≤ (k : Int) := by omega
 have i1 : (k : Int) < (n : Int) := by omega
 clear hx hxm hcx hcd ca hb2 hb3 hb4 hW2 hW3 hW4 hx5 hx6 hx7 hvl htl hs2 hs3 hs4 z5 z5b z6 z6b z7 hm hd hbB
 go_upto_region 5 with (first
  | ((with_reducible refine arm_load ca2 ?_ 18 info42 Tryz.underlying42 ?_ ?_ ?_); rfl; rfl; exact sx)
  | ((with_reducible apply arm_store_new 18 info42); rfl; simp; rfl; rfl; assumption; assumption))
 rw [← HW2.out, ← HX5.out]
 try simp only [Act.put]
 as_aux_lemma => (
 go_upto_region 6 with (first
  | ((with_reducible refine arm_load cav ?_ 16 info40 Tryz.underlying40 ?_ ?_ ?_); rfl; rfl; exact HSV.out)
  | ((with_reducible apply arm_store_new 16 info40); rfl; rfl; rfl; rfl; exact HSV2.out; exact HOV.out))
 rw [← HW3.out, ← HX6.out]
 try simp only [Act.put]
 as_aux_lemma => (
 go_upto_region 7 with (first | ((with_reducible refine arm_build (@built61 d.value d.count d.sum d.hasMin d.hasMax d.min d.max s.b.A s.k.A s.b.n s.k.n s.b.c s.k.c d.scale d.zero d.posOff s.p.A s.p.n s.p.c d.negOff s.n.A s.n.n s.n.c) ?_ ?_); kernel_rfl) | ((with_reducible refine arm_build (@built63 d.start d.time d.value d.count d.sum d.hasMin d.hasMax d.min d.max s.b.A s.k.A s.b.n s.k.n s.b.c s.k.c d.scale d.zero d.posOff s.p.A s.p.n s.p.c d.negOff s.n.A s.n.n s.n.c) ?_ ?_); kernel_rfl) | ((with_reducible apply arm_store_new 18 info63); rfl; simp; rfl; rfl; rfl; rfl))
 rw [← HW4.out, ← HX7.out]
 try simp only [Act.put]
 clear f6_1 f6_2 f6_3 f6_4 f6_5 f6_6 f6_7 f6_8 f6_9 f6_10 f6_11 f6_12 f6_13 f6_14 f6_15 f5_16 f5_17 cav ca2 sx ox
 as_aux_lemma => (
 go_upto_region 8 with fail
 go_loopw [9, 67] (fun _ i wr => TBL wo wr x7 m tl d.attrs s.a.n i) (fun _ i _ => s.a.n - (intOf i).toNat)
 case atStart => exact ⟨0, _, Nat.zero_le _, rfl, HTB0.out⟩
 case round => (
 obtain ⟨j, u, hj, rfl, hT⟩ := hrel.ex
 obtain ⟨wp, rfl⟩ : ∃ wo : World, wo = wr := ⟨_, rfl⟩
 obtain ⟨uA, uc, rfl⟩ := own_slice hT.own
 have HT := Lib.hid hT
 have HBP := Lib.hid (below_then HB0.out HB0.out.size hT.bel)
 clear hrel hT
 by_cases hlt2 : j < s.a.n
 · (
 obtain ⟨bb, ob, r, eA, hltb, hy, _, cb⟩ := (HD.out.a.below (HBP.out.mono hB0)).at_ hlt2
 rw [List.getElem?_map, Option.map_eq_some_iff] at hy
 obtain ⟨y, hy, rfl⟩ := hy
 have HTJ : Hid (((d.attrs.take (j + 1)).map enc2).flatten = ((d.attrs.take j).map enc2).flatten ++ enc2 y) := Lib.hid (by
  obtain ⟨hk', he⟩ := List.getElem?_eq_some_iff.1 hy
  rw [List.take_succ_eq_append_getElem hk', List.map_append, he]; simp)
 obtain ⟨cy, hcy⟩ : ∃ cy, cy = (enc2 y).toArray := ⟨_, rfl⟩
 have sy : cy.size = 2 := by rw [hcy]; rfl
 have oy : cy.toList.all (·.oneCell') = true := by rw [hcy]; rfl
 have cb2 : wp.rangeAt bb (ob + j * 2) cy.toList := by rw [hcy]; exact cb
 obtain ⟨x9, hx9⟩ : ∃ x, x = wp.heap.size := ⟨_, rfl⟩
 obtain ⟨W5, hW5⟩ : ∃ W5, W5 = wp.alloc (.cells cy 46) := ⟨_, rfl⟩
 have hb5 : Below wp.heap.size wp W5 := bq hW5
 have z9 : W5.heap[x9]? = some (.cells cy 46 (0, 0)) := by rw [hx9, hW5]; exact heap_alloc_new wp _
 have HT5 := Lib.hid (HT.out.below hb5)
 have c7 : W5.cell? ⟨x7, 0, none⟩ = some (.slice uA j uc) := blk_cell HT5.out.blk 0 _ (by simp)
 have HW5 := Lib.hid hW5
 have HX9 := Lib.hid hx9
 have HCY := Lib.hid hcy
 have j0 : (0 : Int) ≤ (j : Int) := by omega
 have j2 : s.a.n ≤ 900 := by have := HAN.out; have := HAE.out; omega
 have j1 : (j : Int) < (s.a.n : Int) := by omega
 have HJ : Hid (j ≤ 1000) := Lib.hid (by have := HAN.out; have := HAE.out; omega)
 clear hy cb hb5 hW5 hx9 hcy
 rw [eA]
 as_aux_lemma => (
 go_upto_region 10 with (first
  | ((with_reducible refine arm_load cb2 ?_ 2 info46' Tryz.underlying46 ?_ ?_ ?_); rfl; rfl; exact sy)
  | ((with_reducible apply arm_store_new 2 info46'); rfl; simp; rfl; rfl; assumption; assumption))
 rw [← HW5.out, ← HX9.out]
 try simp only [Act.put]
 go_wp2_with (first
  | ((with_reducible refine arm_load_all 2 info46' Tryz.underlying46 z9 ?_ ?_ ?_ ?_); rfl; rfl; exact sy)
  | ((with_reducible refine wpList_build1 58 2 (infoD_four infoD58) rfl _ _ rfl Tryz.underlying57 (by decide) ?_ sy ?_); rfl)
  | (at_builtin; (refine wpList_tb infoD58 (by decide) HT5.out HJ.out HCY.out rfl _ _ 57 rfl Tryz.underlying57 rfl rfl rfl ?_); intro g cap w7 htb3 hc3 hf3))
 go_roundw
 case rel => exact ⟨j + 1, _, by omega, by go_num, by rw [HTJ.out]; exact htb3⟩
 case measure => simp [intOf]; omega))
 · (
 have hjn : j = s.a.n := by omega
 subst hjn
 have f9 : ¬ (s.a.n : Int) < (s.a.n : Int) := by omega
 have htk : d.attrs.take s.a.n = d.attrs := List.take_of_length_le (by have := HAE.out; omega)
 have hown := HT.out.own
 rw [htk] at hown
 obtain ⟨sA, sc, hs, hrd, hlo⟩ := rd_of_row hown HAE.out.symm (by have := HAN.out; have := HAE.out; omega)
 injection hs with e1 e2 e3
 subst e1 e3
 obtain ⟨q, hq⟩ : ∃ q : Dot × Sl5, q = (d, ⟨⟨uA, s.a.n, uc⟩, s.b, s.k, s.p, s.n⟩) := ⟨_, rfl⟩
 have hxb := HT.out.a
 have hdk : DotK wp (fun b => (Value.slice vA k vc).ownBlock ≠ some b ∧ b ≠ x3 ∧ b ≠ x2 ∧ C b) q.1 q.2 := by
  have hle := HBP.out.size
  have hw := HS0.out
  have hmm := HM.out
  rw [hq]
  have hlow : ∀ b, b < B0 → (Value.slice vA k vc).ownBlock ≠ some b ∧ b ≠ x3 ∧ b ≠ x2 ∧ C b := fun b hb => ⟨fun e => by have := HOW.out b e; omega, by omega, by have := HX2.out; omega, by rw [HC.out]; exact .inl hb⟩
  refine ⟨⟨hrd, (HD.out.b.below (HBP.out.mono hB0)).more (Nat.le_trans hB0 hle), (HD.out.k.below (HBP.out.mono hB0)).more (Nat.le_trans hB0 hle), (HD.out.p.below (HBP.out.mono hB0)).more (Nat.le_trans hB0 hle), (HD.out.n.below (HBP.out.mono hB0)).more (Nat.le_trans hB0 hle), HD.out.ok⟩, fun t ht b o sp e hn => ?_⟩
  simp only [List.mem_cons, List.not_mem_nil, or_false] at ht
  rcases ht with rfl | rfl | rfl | rfl | rfl
  · have := hlo b o sp e
    exact ⟨fun e => by have := HOW.out b e; omega, by omega, by have := HX2.out; omega, by rw [HC.out]; exact .inr (by omega)⟩
  · exact hlow b (rdb_lt HD.out.b e hn)
  · exact hlow b (rdb_lt HD.out.k e hn)
  · exact hlow b (rdb_lt HD.out.p e hn)
  · exact hlow b (rdb_lt HD.out.n e hn)
 have HDTP := Lib.hid (HDT.out.below HT.out.bel)
 have hblk := HT.out.blk
 obtain ⟨cz, hcz⟩ : ∃ cz, cz = (dotCells q.1 q.2).toArray := ⟨_, rfl⟩
 have hcz2 : (Value.slice uA s.a.n uc :: tl).toArray = cz := by rw [hcz, hq, HTL.out]; rfl
 rw [hcz2] at hblk
 have sz : cz.size = 18 := by rw [hcz]; rfl
 have c3 : wp.cell? ⟨x3, 4, none⟩ = some (.slice vA k vc) := blk_cell HDTP.out.blk 4 _ (by rw [HPRE.out]; rfl)
 have HDK := Lib.hid hdk
 have HCZ := Lib.hid hcz
 have HTK2 : Hid ((l.take (k + 1)).map (·.1) = (l.take k).map (·.1) ++ [q.1]) := Lib.hid (by rw [hq]; exact HTK.out)
 clear hown hrd hlo hq hxb hdk hcz hcz2 htk
 as_aux_lemma => (
 go_wp2_with (first
  | ((with_reducible refine arm_load_all 18 info63 Tryz.underlying63 hblk ?_ ?_ ?_ ?_); rfl; rfl; exact sz)
  | ((with_reducible refine wpList_build1 63 18 (infoD_four infoD63) rfl _ _ rfl Tryz.underlying28 (by decide) ?_ sz ?_); rfl)
  | (at_builtin; (refine wpList_dt infoD63 (by decide) HDTP.out hx3' HML.out (by omega) HCZ.out HDK.out rfl _ _ 28 rfl Tryz.underlying28 rfl rfl rfl 4 (by rw [HPRE.out]; rfl) ?_); intro g cap w8 hdt3 hc3 hf3))
 go_roundw
 case rel => exact ⟨k + 1, _, by omega, by go_num, by rw [HTK2.out]; exact hdt3⟩
 case measure => simp [intOf]; omega)))))))
 · (
 have hkn : k = n := by omega
 have htk : l.take k = l := List.take_of_length_le (by have := HLEN.out; omega)
 have f9 : ¬ (k : Int) < (n : Int) := by omega
 rw [htk] at HDT HML
 have hblk := HDT.out.blk
 rw [HPRE.out] at hblk
 have hblk3 : wo.heap[x3]? = some (.cells #[.int .u8 kd, .bool fl, .bool dl, .bool mo, .slice vA k vc] 30 (0, 0)) := hblk
 have hz2 : wo.heap[x2]? = some (.cells #[.int .u8 0, .bool false, .bool false, .bool false, .slice none 0 0] 30 (0, 0)) := (HDT.out.bel.block _ (by have := HX2.out; have := HS0.out; omega)).trans HZ2.out
 have HKN := Lib.hid hkn
 clear hkn htk hblk
 as_aux_lemma => (
 go_wp2_with (first
  | ((with_reducible refine arm_load_all 5 info30' Tryz.underlying30 hblk3 ?_ ?_ ?_ ?_); rfl; rfl; rfl)
  | ((with_reducible apply arm_store_whole 5 info30' hz2); rfl; rfl; rfl; rfl; rfl; intro w2 g1 g2 g3 g4))
 obtain ⟨pts, h1, h2, h3⟩ := HDT.out.ex
 have hkn := HKN.out
 subst hkn
 rw [HML.out] at h2
 obtain ⟨A', c', hv, hrd, hlo⟩ := rd_of_own h2 (fun r hr => by obtain ⟨q, _, rfl⟩ := List.mem_map.1 hr; rfl) (by rw [List.length_map]; have := congrArg List.length h1; rw [HML.out] at this; simpa using this) (by omega)
 injection hv with e1 e2 e3
 subst e1 e3
 have hx2w := HX2.out
 have hs0 := HS0.out
 have hown2 : w2.ownsRow W0.heap.size 63 18 (.slice vA k vc) k (pts.map fun x => dotCells x.1 x.2).flatten := own_of_block h2 (fun g hg => g2 g (by have := (h2.lt g hg).1; omega))
 obtain ⟨A2, c2, hv2, hrd2, _⟩ := rd_of_own hown2 (fun r hr => by obtain ⟨q, _, rfl⟩ := List.mem_map.1 hr; rfl) (by rw [List.length_map]; have := congrArg List.length h1; rw [HML.out] at this; simpa using this) (by omega)
 injection hv2 with e1 e2 e3
 subst e1 e3
 have hoff : Off C vA k pts := ⟨fun b o t e _ => by have := hlo b o t e; rw [HC.out]; exact .inr (by omega), fun x hx t ht b o sp e hn => ((h3 x hx).ok t ht b o sp e hn).2.2.2⟩
 have hbw : Below w.heap.size w w2 := g3 _ _ (by omega) HB0.out
 have hds : DotsR w2 w2.heap.size vA k vc pts := ⟨hrd2, fun q hq => ((h3 q hq).step (ok' := fun _ => True) (fun b _ hok => g2 b hok.2.2.1) (fun _ _ _ => trivial) (by omega)).pt⟩
 refine bodyPost_ret (results_cell_row rfl _ _ _ _ _ _ _ rfl g1 Tryz.underlying30 rfl info30') rfl ?_
 first
  | exact ⟨vA, vc, pts, rfl, h1, hds, hoff, hbw⟩
  | exact ⟨vA, vc, rfl, pts, h1, hds, hoff, hbw⟩
  | exact ⟨vA, vc, rfl, ⟨pts, h1, hds, hoff⟩, hbw⟩)))))
end
end Go.Proofs.YtlpddogcnpokfaaGreatDoor
