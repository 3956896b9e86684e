/- Contracts of functions of the program, for the comparison of aggregations (part KA3). -/
import Derived.Test.YtlpddogcnpokfaaGreatDoorKA1
import Derived.OrdersHeld
import Derived.Deep.Upon
import Derived.Deep.RegionHeld
set_option linter.all false
namespace Go.Proofs.YtlpddogcnpokfaaGreatDoor
open Go.RowKit
section
/-- Operations that are not wanted, one behind the other: may each be taken first? -/
def skipsOk (md : Region.Mode) (ops : Array Oper) : List (Nat × Tmp) → Array Bool → Act → Bool
 | [], _, _ => true
 | (i, d) :: r, listed, a =>
  match ops[i]? with
  | none => false
  | some o => Region.free md ops listed i && (Region.ready md ops listed).contains i && !(Region.wanted o (yielded ops a.tmps)) && (o.dst == some d) && skipsOk md ops r (listed.setIfInBounds i true) (a.put (some d) undef)
def skipsAct (is : List (Nat × Tmp)) (a : Act) : Act := { a with tmps := is.foldl (fun t p => t.setIfInBounds p.2 undef) a.tmps }
def skipsListed (is : List (Nat × Tmp)) (l : Array Bool) : Array Bool := is.foldl (fun l p => l.setIfInBounds p.1 true) l
theorem wpAnyH_skips {P : Program} {ops : Array Oper} {Q : Exit → Act → World → Prop} {md : Region.Mode} {S : World → Prop} (hs : Region.noSelect ops = true)
 (hQ : ∀ (d : Tmp) (v : Value) c (a : Act) w, Q (.panic c) { a with tmps := a.tmps.setIfInBounds d v } w → Q (.panic c) a w) :
 ∀ (is : List (Nat × Tmp)) (fuel : Nat) (listed : Array Bool) (a : Act) (w : World), skipsOk md ops is listed a = true → S w →
  wpAnyH P md ops Q S fuel (skipsListed is listed) (skipsAct is a) w → wpAnyH P md ops Q S (fuel + is.length) listed a w
 | [], fuel, listed, a, w, _, _, h => h
 | (i, d) :: r, fuel, listed, a, w, hok, hS, h => by
  rw [skipsOk] at hok
  cases ho : ops[i]? with
  | none => rw [ho] at hok; cases hok
  | some o =>
   rw [ho] at hok
   simp only [Bool.and_eq_true, Bool.not_eq_true', beq_iff_eq] at hok
   obtain ⟨⟨⟨⟨h1, h2⟩, h3⟩, h4⟩, h5⟩ := hok
   refine wpAnyH_take (i := i) (v := undef) ho hs h1 h2 (fun c a w h => hQ d undef c a w (by rw [h4] at h; exact h)) (Or.inr ⟨h3, rfl⟩) hS ?_
   rw [h4]
   exact wpAnyH_skips hs hQ r fuel _ _ w h5 hS h
theorem wpAnyH_skipped {P : Program} {ops : Array Oper} {Q : Exit → Act → World → Prop} {md : Region.Mode} {S : World → Prop} {fuel' : Nat} {listed listed' : Array Bool} {a a' : Act} {w : World}
 (is : List (Nat × Tmp)) (fuel : Nat) (hf : fuel' = fuel + is.length) (hs : Region.noSelect ops = true)
 (hQ : ∀ (d : Tmp) (v : Value) c (a : Act) w, Q (.panic c) { a with tmps := a.tmps.setIfInBounds d v } w → Q (.panic c) a w) (hok : skipsOk md ops is listed a = true) (hS : S w)
 (hl : skipsListed is listed = listed') (ha : skipsAct is a = a') (h : wpAnyH P md ops Q S fuel listed' a' w) : wpAnyH P md ops Q S fuel' listed a w := by
 subst hf hl ha
 exact wpAnyH_skips hs hQ is fuel listed a w hok hS h
/-- One operation taken first; where it puts its value is said. -/
theorem wpAnyH_took {P : Program} {ops : Array Oper} {Q : Exit → Act → World → Prop} {md : Region.Mode} {S : World → Prop} (i : Nat) (d : Tmp) {oi : Oper} {v : Value} {fuel : Nat} {listed listed' : Array Bool} {a a' : Act} {w : World} (hi : ops[i]? = some oi) (hd : oi.dst = some d)
 (hs : Region.noSelect ops = true) (hf : Region.free md ops listed i = true) (hr : (Region.ready md ops listed).contains i = true)
 (hQ : ∀ c (a : Act) w, Q (.panic c) { a with tmps := a.tmps.setIfInBounds d v } w → Q (.panic c) a w) (hw : Region.wanted oi (yielded ops a.tmps) = true) (hS : S w) (hy : ∀ w, S w → (execOp a.eval oi).run P w = .ok (.value v) w) (ha : ({ a with tmps := a.tmps.setIfInBounds d v } : Act) = a')
 (hl : listed.setIfInBounds i true = listed') (h : wpAnyH P md ops Q S fuel listed' a' w) : wpAnyH P md ops Q S (fuel + 1) listed a w := by
 subst ha hl
 refine wpAnyH_take hi hs hf hr (fun c a w h => hQ c a w (by rw [hd] at h; exact h)) (Or.inl ⟨hw, hy⟩) hS ?_
 rw [hd]
 exact h
end
section
theorem setCells_row (b : Nat) (e : TypeId) : ∀ (vs pre post : List Value) (w : World), w.heap[b]? = some (.cells (pre ++ post).toArray e (0, 0)) → vs.length ≤ post.length →
 (w.setCells b pre.length vs).heap[b]? = some (.cells (pre ++ (vs ++ post.drop vs.length)).toArray e (0, 0))
 | [], pre, post, w, h, _ => by simpa [World.setCells] using h
 | v :: vs, pre, [], w, h, hl => by simp at hl
 | v :: vs, pre, p :: post, w, h, hl => by
  have h1 : (w.setCell ⟨b, pre.length, none⟩ v).heap[b]? = some (.cells ((pre ++ [v]) ++ post).toArray e (0, 0)) := by
   rw [heap_setCell_same w b pre.length _ e v h]
   simp
  have := setCells_row b e vs (pre ++ [v]) post _ h1 (by simpa using hl)
  rw [World.setCells]
  simpa using this
theorem setCells_whole {b : Nat} {e : TypeId} {zs : Array Value} {w : World} (h : w.heap[b]? = some (.cells zs e (0, 0))) (vs : List Value) (hs : vs.length = zs.size) :
 (w.setCells b 0 vs).heap[b]? = some (.cells vs.toArray e (0, 0)) := by
 have := setCells_row b e vs [] zs.toList w (by simpa using h) (by simp [hs])
 have hd : zs.toList.drop vs.length = [] := List.drop_eq_nil_of_le (by simp [hs])
 rw [hd] at this
 simpa using this
theorem there_whole {b : Nat} {e : TypeId} {zs : Array Value} {w : World} (h : w.heap[b]? = some (.cells zs e (0, 0))) (n : Nat) (hn : n ≤ zs.size) : w.there b 0 n := by
 intro j hj
 rw [Nat.zero_add, cell_of_row w b j zs e _ h]
 refine ⟨by simp; omega, ?_⟩
 simp [World.frozen?, h]
theorem below_setCells {B b : Nat} {a : World} (hB : B ≤ b) : ∀ (vs : List Value) (o : Nat) (w : World), Below B a w → Below B a (w.setCells b o vs)
 | [], _, _, h => h
 | v :: vs, o, w, h => by
  rw [World.setCells]
  exact below_setCells hB vs (o + 1) _ (h.setCell hB v)
theorem size_setCells' (b : Nat) : ∀ (vs : List Value) (o : Nat) (w : World), (w.setCells b o vs).heap.size = w.heap.size
 | [], _, _ => rfl
 | v :: vs, o, w => by rw [World.setCells, size_setCells' b vs, World.size_setCell]
theorem heap_keep_setCells {b b' : Nat} {o : Option Obj} (vs : List Value) (k : Nat) (w : World) (h : w.heap[b']? = o) (hne : b' ≠ b) (hb : b' < w.heap.size) : (w.setCells b k vs).heap[b']? = o :=
 (World.heap_setCells_other w b k vs hb hne).trans h
theorem run_load_part {P : Program} {oi : Oper} {a : Act} {ty : TypeId} {x : Operand} (ho : oi.op = .load ty x) {w : World} {b off : Nat} {e : TypeId} {fr : Nat × Nat} {pre mid post : List Value} {cs : Array Value} {de : TypeDesc}
 (hcs : cs = (pre ++ (mid ++ post)).toArray) (hb : w.heap[b]? = some (.cells cs e fr)) (hx : a.eval x = .pointer (some ⟨b, off, none⟩)) (n : Nat) (hl : pre.length = off ∧ mid.length = n) (hi : (P.info? ty).map (·.size) = some n) (hu : P.underlying ty = some de) (hd : de.isRow = true) :
 (execOp a.eval oi).run P w = .ok (.value (.agg mid.toArray)) w := by
 subst hcs
 obtain ⟨ho1, hn⟩ := hl
 subst ho1
 have hc : w.rangeAt b pre.length mid := by
  intro j v hv
  rw [cell_of_row w b _ _ _ _ hb]
  have hj := (List.getElem?_eq_some_iff.1 hv).1
  simp only [List.getElem?_toArray]
  rw [List.getElem?_append_right (by omega), Nat.add_sub_cancel_left, List.getElem?_append_left hj]
  exact hv
 unfold execOp
 simp only [ho, hx, Instr.loadAt, Instr.sureAddr, Sem.run_bind, Sem.run_pure, Result.andThen_ok, run_loadVar_mid w b pre.length ty mid de hc hu hd (by rw [hn]; exact hi)]
theorem wpAnyH_forget {P : Program} {ops : Array Oper} {Q : Exit → Act → World → Prop} {md : Region.Mode} {S : World → Prop} {fuel : Nat} {listed : Array Bool} {a : Act} {w : World} (F : World → Prop) (hF : F w)
 (h : ∀ w, F w → wpAnyH P md ops Q S fuel listed a w) : wpAnyH P md ops Q S fuel listed a w := h w hF
theorem store_whole {P : Program} {op : Oper} {a : Act} {w : World} {K : Act → World → Prop} {Q : Exit → Act → World → Prop} (ty : TypeId) (x y : Operand) (ho : op.op = .store ty x y) (hd : op.dst = none)
 {b : Nat} {cs zs : Array Value} {e : TypeId} (n : Nat) (hx : a.eval x = .pointer (some ⟨b, 0, none⟩)) (hy : a.eval y = .agg cs) (hz : w.heap[b]? = some (.cells zs e (0, 0))) (hn : zs.size = n ∧ cs.size = n)
 (hi : (P.info? ty).map (·.size) = some n) (h1 : cs.toList.all (·.oneCell') = true) (c : Bool) (hc : c = true)
 (h : ∀ w', w'.heap[b]? = some (.cells cs e (0, 0)) → (∀ b', b' ≠ b → w'.heap[b']? = w.heap[b']?) → (∀ B a, B ≤ b → Below B a w → Below B a w') → w'.heap.size = w.heap.size → K a w') :
 if c = true then op.wp P a w K Q else K (a.put op.dst undef) w := by
 subst hc
 rw [if_pos rfl]
 obtain ⟨h3, h4⟩ := hn
 refine wp_store_mid ty x y ho b 0 cs hx hy (there_whole hz _ (by omega)) (by rw [h4]; exact hi) (by rw [← Array.all_toList]; exact h1) ?_
 rw [hd]
 refine h _ (by simpa using setCells_whole hz cs.toList (by simp; omega)) (fun b' hb' => ?_) (fun B a hB hw => below_setCells hB _ _ _ hw) (size_setCells' _ _ _ _)
 by_cases hlt : b' < w.heap.size
 · exact heap_keep_setCells _ _ _ rfl hb' hlt
 · rw [Array.getElem?_eq_none (by rw [size_setCells']; omega), Array.getElem?_eq_none (by omega)]
theorem heap2_fst (w : World) (o o' : Obj) : ((w.alloc o).alloc o').drew.heap[w.heap.size]? = some o := by
 show ((w.alloc o).alloc o').heap[w.heap.size]? = _
 rw [Below.heap_alloc _ _ _ (by simp)]
 exact heap_alloc_new w _
theorem heap2_snd (w : World) (o o' : Obj) : ((w.alloc o).alloc o').drew.heap[w.heap.size + 1]? = some o' := by
 show ((w.alloc o).alloc o').heap[w.heap.size + 1]? = _
 have := heap_alloc_new (w.alloc o) o'
 simpa using this
end
theorem tk {P : Program} {ops : Array Oper} {Q : Exit → Act → World → Prop} {md : Region.Mode} {S : World → Prop} (i : Nat) (d : Tmp) {oi : Oper} {v : Value} {fuel : Nat} {listed listed' : Array Bool} {a a' : Act} {w : World} (hi : ops[i]? = some oi) (hd : oi.dst = some d)
 (hy : ∀ w, S w → (execOp a.eval oi).run P w = .ok (.value v) w) (ha : ({ a with tmps := a.tmps.setIfInBounds d v } : Act) = a') (hl : listed.setIfInBounds i true = listed') (h : wpAnyH P md ops Q S fuel listed' a' w)
 (hk : (Region.noSelect ops && Region.free md ops listed i && (Region.ready md ops listed).contains i && Region.wanted oi (yielded ops a.tmps)) = true := by kernel_rfl)
 (hQ : ∀ c (a : Act) w, Q (.panic c) { a with tmps := a.tmps.setIfInBounds d v } w → Q (.panic c) a w := by exact fun _ _ _ h => h) (hS : S w := by assumption) : wpAnyH P md ops Q S (fuel + 1) listed a w := by
 simp only [Bool.and_eq_true] at hk
 exact wpAnyH_took i d hi hd hk.1.1.1 hk.1.1.2 hk.1.2 hQ hk.2 hS hy ha hl h
theorem ar1 {P : Program} {ops : Array Oper} {Q : Exit → Act → World → Prop} {md : Region.Mode} {S : World → Prop} {fuel : Nat} {listed : Array Bool} {a : Act} {w : World} {i : Nat} {o : Oper} (h : ops[i]? = some o)
 (k : ∀ (K' : Act → World → Prop), Shut (∀ (a : Act) (w : World), S w → (S w → wpAnyH P md ops Q S fuel (listed.setIfInBounds i true) a w) → K' a w) → if Region.wanted o (yielded ops a.tmps) = true then Oper.wp P o a w K' Q else K' (a.put o.dst undef) w) : AllReadyH P md ops Q S fuel listed a w [i] := AllReadyH.cons h k AllReadyH.nil
end Go.Proofs.YtlpddogcnpokfaaGreatDoor
