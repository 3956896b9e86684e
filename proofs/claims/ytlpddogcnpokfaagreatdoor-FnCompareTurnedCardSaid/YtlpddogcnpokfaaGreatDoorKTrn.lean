/- Contracts of functions of the program, for the comparison of aggregations (part KTrn). -/
import Derived.Test.YtlpddogcnpokfaaGreatDoorKB2
import Derived.Test.YtlpddogcnpokfaaGreatDoorKEqv
set_option linter.all false
namespace Go.Proofs.YtlpddogcnpokfaaGreatDoor
open Go.RowKit
/-! ### An aggregation turned round -/
def turnDot (d : Dot) : Dot := { d with attrs := d.attrs.reverse }
theorem listEq_refl {α : Type} {p : α → α → Bool} : ∀ {l : List α}, (∀ x ∈ l, p x x = true) → listEq p l l = true
 | [], _ => rfl
 | x :: l, h => by
  simp only [listEq, Bool.and_eq_true]
  exact ⟨h x (by simp), listEq_refl fun y hy => h y (by simp [hy])⟩
theorem dVal_refl {fl : Bool} {x : Int} (h : fl = true → isNum x = true) : dVal fl x x = true := by
 unfold dVal
 cases fl with
 | true => exact h rfl
 | false => simp
theorem dExt_refl {fl k : Bool} {x : Int} (h : fl = true → isNum x = true) : dExt fl k k x x = true := by
 unfold dExt
 rw [dVal_refl h]
 cases k <;> rfl
theorem apart_of {fl : Bool} {d : Dot} (h : DotRight fl d) : Apart d.attrs := by
 unfold Apart
 rw [List.pairwise_iff_getElem]
 intro i j hi hj hij e
 exact h.apart j i d.attrs[j] d.attrs[i] hij (List.getElem?_eq_getElem hj) (List.getElem?_eq_getElem hi) e.symm
theorem sameDot_turn (kd : Int) (it iv : Bool) {fl : Bool} {d : Dot} (h : DotRight fl d) : sameDot kd fl it iv d (turnDot d) = true := by
 have e : sortK d.attrs.reverse = sortK d.attrs := (sortK_unique (List.reverse_perm _).symm (apart_of h)).symm
 have k1 : listEq eq2 (sortK d.attrs) (sortK d.attrs) = true := listEq_refl fun x _ => by simp [eq2]
 have k2 : ∀ l : List Int, listEq (fun a b : Int => a == b) l l = true := fun l => listEq_refl fun x _ => by simp
 have k3 : listEq (dVal true) d.bounds d.bounds = true := listEq_refl fun x hx => dVal_refl fun _ => h.bounds x hx
 have k4 : dVal fl d.sum d.sum = true := dVal_refl fun hf => (h.nums hf).2.1
 have k5 : dVal fl d.value d.value = true := dVal_refl fun hf => (h.nums hf).1
 have k6 : dExt fl d.hasMin d.hasMin d.min d.min = true := dExt_refl fun hf => (h.nums hf).2.2.1
 have k7 : dExt fl d.hasMax d.hasMax d.max d.max = true := dExt_refl fun hf => (h.nums hf).2.2.2
 unfold sameDot attrsEq timesEq dotVal extEq turnDot
 simp only [e, k1, k2, k3, k4, k5, k6, k7, beq_self_eq_true, Bool.and_true, Bool.or_true, ite_self]
theorem dotRight_turn {fl : Bool} {d : Dot} (h : DotRight fl d) : DotRight fl (turnDot d) where
 nattr := by simpa [turnDot] using h.nattr
 nb := h.nb
 nk := h.nk
 np := h.np
 nn := h.nn
 sizes := fun x hx => h.sizes x (by simpa [turnDot] using hx)
 apart := fun i j a b hij ha hb => by
  have hp : Apart (turnDot d).attrs := apart_perm (List.reverse_perm _).symm (apart_of h)
  obtain ⟨hi, ei⟩ := List.getElem?_eq_some_iff.1 ha
  obtain ⟨hj, ej⟩ := List.getElem?_eq_some_iff.1 hb
  have := (List.pairwise_iff_getElem.1 hp) j i hj hi hij
  rw [ei, ej] at this
  exact Ne.symm this
 bounds := h.bounds
 nums := h.nums
/-- b has the dots of a in another order, each with its attributes turned round. -/
structure Turned (a b : Data) : Prop where
 kind : b.kind = a.kind
 float : b.float = a.float
 delta : b.delta = a.delta
 mono : b.mono = a.mono
 dots : (b.dots.map (·.1)).Perm ((a.dots.map (·.1)).map turnDot)
theorem All2.of_map {α : Type} {p : α → α → Bool} (f : α → α) : ∀ {l : List α}, (∀ x ∈ l, p x (f x) = true) → All2 p l (l.map f)
 | [], _ => .nil
 | x :: l, h => .cons (h x (by simp)) (All2.of_map f fun y hy => h y (by simp [hy]))
theorem Turned.right {a b : Data} (h : Turned a b) (ra : Right a.kind a.float a.dots) : Right b.kind b.float b.dots := by
 have hl := h.dots.length_eq
 simp only [List.length_map] at hl
 refine ⟨by rw [h.kind]; exact ra.1, by rw [hl]; exact ra.2.1, fun x hx => ?_⟩
 have hm := h.dots.subset (List.mem_map.2 ⟨x, hx, rfl⟩)
 obtain ⟨y, hy, e⟩ := List.mem_map.1 hm
 obtain ⟨z, hz, rfl⟩ := List.mem_map.1 hy
 rw [← e, h.float]
 exact dotRight_turn (ra.2.2 z hz)
theorem Turned.same {a b : Data} (h : Turned a b) (ra : Right a.kind a.float a.dots) (it iv : Bool) : sameData it iv a b = true := by
 have hl := h.dots.length_eq
 simp only [List.length_map] at hl
 unfold sameData headEq
 rw [h.kind, h.float, h.delta, h.mono, hl, sameDots_greedy]
 simp only [beq_self_eq_true, Bool.or_true, Bool.true_and]
 refine (greedy_iff (by simp [hl]) (sameDot_dif _ _ _ _ _ _)).2 ⟨_, h.dots.symm, All2.of_map turnDot fun x hx => ?_⟩
 obtain ⟨y, hy, rfl⟩ := List.mem_map.1 hx
 exact sameDot_turn _ _ _ (ra.2.2 y hy)
theorem Turned.same' {a b : Data} (h : Turned a b) (ra : Right a.kind a.float a.dots) (it iv : Bool) : sameData it iv b a = true := by
 rw [sameData_symm]
 exact h.same ra it iv
/-! ### Rows turned round in place -/
open Go.Sort
theorem rev_after {α : Type} [Inhabited α] (enc : α → List Value) (k : Nat) (hk : ∀ x, (enc x).length = k) {w : World} {base : Nat} {e : TypeId} {n g c : Nat} {l : List α}
 (hown : w.ownsRow base e k (.slice (some ⟨g, 0, none⟩) n c) n (l.map enc).flatten) (hn : 0 < n) (hl : l.length = n) (hsm : n ≤ 1000) (q : Nat) {w' : World} (hw : w' = putRowK enc k (Sort.ahead w q) g 0 l.toArray.reverse) :
 Rd w' w'.heap.size k (some ⟨g, 0, none⟩) n c (l.reverse.map enc) ∧ ∀ B a, B ≤ g → B ≤ w.heap.size → Below B a w → Below B a w' := by
 have hH : HoldsK enc k w g 0 l.toArray := holdsK_of_own enc hk l.toArray (by simpa using hown) (by simpa using hl) hn
 obtain ⟨g', cap, hv, hbg, hlt, hnc, hcm⟩ := own_some hown hn
 injection hv with h1 _ h2
 injection h1 with h1
 injection h1 with h1
 subst h1 h2
 have e : w' = sortWorldK enc k w g 0 q l.toArray.reverse #[] := by rw [hw]; unfold sortWorldK; rw [Go.Sort.grow_empty]
 have hs : l.toArray.reverse.size = l.toArray.size := by simp
 have h1 := holdsK_sortWorldK_c enc k w g 0 l.toArray l.toArray.reverse q #[] hH hlt hs
 have hz := size_sortWorldK_c enc k w g 0 q l.toArray.reverse #[]
 rw [← e] at h1 hz
 refine ⟨?_, fun B a hB hBw hb => ?_⟩
 · have := rd_of_holdsK enc hk l.toArray.reverse h1 (by simpa using hl) (Nat.lt_of_lt_of_le hlt hz) hnc (by omega) (by simpa [maxLen] using hcm)
   simpa using this
 · rw [e]; exact below_sortWorldK enc k hb hBw hB 0 q _ #[]
instance : Inhabited Dot := ⟨⟨[], 0, 0, 0, false, false, 0, 0, [], [], 0, 0, 0, [], 0, [], 0, 0⟩⟩
instance : Inhabited Sl := ⟨⟨none, 0, 0⟩⟩
instance : Inhabited Sl5 := ⟨⟨default, default, default, default, default⟩⟩
theorem c13 {base n g c : Nat} {l : List (Dot × Sl5)} {w : World} (hown : w.ownsRow base 42 18 (.slice (some ⟨g, 0, none⟩) n c) n (rowsD l).flatten) (hn : 0 < n) (hl : l.length = n) (hsm : n ≤ 1000) :
 Calls Tryz.prog 13 #[.slice (some ⟨g, 0, none⟩) n c] w fun e w' => e = .returned (.tuple #[]) ∧ Rd w' w'.heap.size 18 (some ⟨g, 0, none⟩) n c (rowsD l.reverse) ∧ ∀ B a, B ≤ g → B ≤ w.heap.size → Below B a w → Below B a w' := by
 have h1 : ∀ x : Dot × Sl5, ∀ v ∈ dotCells x.1 x.2, v.oneCell' = true := fun x v hv => one_dots [x] v (by simpa [rowsD] using hv)
 have hH : HoldsK (fun x : Dot × Sl5 => dotCells x.1 x.2) 18 w g 0 l.toArray := holdsK_of_own (fun x : Dot × Sl5 => dotCells x.1 x.2) (fun _ => rfl) l.toArray (by simpa [rowsD] using hown) (by simpa using hl) hn
 have := AnyQ.slices_Reverse Tryz.sl13 18 Tryz.isAgg42 Tryz.sizeOf42 (fun x : Dot × Sl5 => dotCells x.1 x.2) (fun _ => rfl) h1 g 0 c l.toArray w hH (by simp; omega)
 rw [List.size_toArray, hl] at this
 refine this.mono ?_
 rintro e w' ⟨he, q, hw⟩
 exact ⟨he, rev_after (fun x : Dot × Sl5 => dotCells x.1 x.2) 18 (fun _ => rfl) hown hn hl hsm q hw⟩
theorem c15 {base n g c : Nat} {l : List KV} {w : World} (hown : w.ownsRow base 46 2 (.slice (some ⟨g, 0, none⟩) n c) n (l.map enc2).flatten) (hn : 0 < n) (hl : l.length = n) (hsm : n ≤ 1000) :
 Calls Tryz.prog 15 #[.slice (some ⟨g, 0, none⟩) n c] w fun e w' => e = .returned (.tuple #[]) ∧ Rd w' w'.heap.size 2 (some ⟨g, 0, none⟩) n c (l.reverse.map enc2) ∧ ∀ B a, B ≤ g → B ≤ w.heap.size → Below B a w → Below B a w' := by
 have h1 : ∀ x : KV, ∀ v ∈ enc2 x, v.oneCell' = true := fun x v hv => one_enc2 [x] v (by simpa using hv)
 have hH : HoldsK enc2 2 w g 0 l.toArray := holdsK_of_own enc2 (fun _ => rfl) l.toArray (by simpa using hown) (by simpa using hl) hn
 have := AnyQ.slices_Reverse Tryz.sl15 2 Tryz.isAgg46 Tryz.sizeOf46 enc2 (fun _ => rfl) h1 g 0 c l.toArray w hH (by simp; omega)
 rw [List.size_toArray, hl] at this
 refine this.mono ?_
 rintro e w' ⟨he, q, hw⟩
 exact ⟨he, rev_after enc2 2 (fun _ => rfl) hown hn hl hsm q hw⟩
/-- Reverse of a slice that Clone made, an empty one too. -/
theorem c15own {base n : Nat} {v : Value} {l : List KV} {w : World} (hown : w.ownsRow base 46 2 v n (l.map enc2).flatten) (hl : l.length = n) (hsm : n ≤ 1000) :
 Calls Tryz.prog 15 #[v] w fun e w' => e = .returned (.tuple #[]) ∧ (∃ A c, v = .slice A n c ∧ Rd w' w'.heap.size 2 A n c (l.reverse.map enc2) ∧ ∀ b o t, A = some ⟨b, o, t⟩ → base ≤ b) ∧ ∀ B a, B ≤ base → B ≤ w.heap.size → Below B a w → Below B a w' := by
 rcases Nat.eq_zero_or_pos n with h0 | h0
 · (
 subst h0
 have hl0 : l = [] := List.eq_nil_of_length_eq_zero hl
 subst hl0
 obtain ⟨A, c, rfl, hrd, hlt⟩ := rd_of_own (rows := []) hown (by simp) rfl (by omega)
 refine (AnyQ.slices_Reverse_empty Tryz.sl15 A c w).mono ?_
 rintro e w' ⟨he, rfl⟩
 exact ⟨he, ⟨A, c, rfl, hrd, fun b o t e => (hlt b o t e).1⟩, fun B a _ _ h => h⟩)
 · (
 obtain ⟨g, cap, rfl, hbg, hlt, _, _⟩ := own_some hown h0
 refine (c15 hown h0 hl hsm).mono ?_
 rintro e w' ⟨he, hrd, hb⟩
 exact ⟨he, ⟨_, cap, rfl, hrd, fun b o t e => by injection e with e; injection e with e; omega⟩, fun B a hB hw h => hb B a (by omega) hw h⟩)
theorem rows_len (l : List (Dot × Sl5)) : (rowsD l).flatten.length = l.length * 18 := by
 rw [List.length_flatten, rowsD, List.map_map]
 have : l.map (List.length ∘ fun x => dotCells x.1 x.2) = List.replicate l.length 18 := by
  rw [← List.map_const']
  exact List.map_congr_left fun _ _ => rfl
 rw [this, List.sum_replicate_nat]
theorem rows_split : ∀ (l : List (Dot × Sl5)) (k : Nat), (rowsD l).flatten.take (k * 18) = (rowsD (l.take k)).flatten ∧ (rowsD l).flatten.drop (k * 18) = (rowsD (l.drop k)).flatten
 | [], k => by simp [rowsD]
 | x :: l, 0 => by simp [rowsD]
 | x :: l, k + 1 => by
  have hl : (dotCells x.1 x.2).length = 18 := rfl
  obtain ⟨i1, i2⟩ := rows_split l k
  constructor
  · show ((dotCells x.1 x.2) ++ (rowsD l).flatten).take ((k + 1) * 18) = (dotCells x.1 x.2) ++ (rowsD (l.take k)).flatten
    rw [List.take_append, List.take_of_length_le (by omega), hl, show (k + 1) * 18 - 18 = k * 18 by omega, i1]
  · (
  show ((dotCells x.1 x.2) ++ (rowsD l).flatten).drop ((k + 1) * 18) = (rowsD (l.drop k)).flatten
  rw [List.drop_append, List.drop_eq_nil_of_le (by omega), hl, show (k + 1) * 18 - 18 = k * 18 by omega, i2]
  rfl)
theorem flat_set : ∀ (m : List (Dot × Sl5)) (i : Nat) (d : Dot) (s : Sl5) (t : Sl) (d' : Dot), m[i]? = some (d, s) → dotCells d' ⟨t, s.b, s.k, s.p, s.n⟩ = .slice t.A t.n t.c :: (dotCells d s).tail →
 (rowsD m).flatten.set (i * 18) (.slice t.A t.n t.c) = (rowsD (m.set i (d', ⟨t, s.b, s.k, s.p, s.n⟩))).flatten
 | [], i, d, s, t, d', h, _ => by simp at h
 | x :: m, 0, d, s, t, d', h, he => by
  simp at h
  subst h
  show (dotCells d s ++ (rowsD m).flatten).set 0 _ = dotCells d' ⟨t, s.b, s.k, s.p, s.n⟩ ++ (rowsD m).flatten
  rw [he]
  rfl
 | x :: m, i + 1, d, s, t, d', h, he => by
  have ih := flat_set m i d s t d' (by simpa using h) he
  have hl : (dotCells x.1 x.2).length = 18 := rfl
  show (dotCells x.1 x.2 ++ (rowsD m).flatten).set ((i + 1) * 18) _ = dotCells x.1 x.2 ++ (rowsD (m.set i (d', ⟨t, s.b, s.k, s.p, s.n⟩))).flatten
  rw [← ih, List.set_append_right _ _ (by omega), hl]
  congr 2
  omega
/-- The dots of b in a row of the call's own, the first k of them turned. -/
structure TL (B g n c : Nat) (l : List Dot) (k : Nat) (w : World) : Prop where
 ex : ∃ m : List (Dot × Sl5), m.map (·.1) = (l.take k).map turnDot ++ l.drop k ∧ w.ownsRow B 42 18 (.slice (some ⟨g, 0, none⟩) n c) n (rowsD m).flatten ∧ ∀ x ∈ m, DotK w (fun b => b ≠ g) x.1 x.2
theorem TL.below {B g n c k : Nat} {l : List Dot} {w w' : World} (h : TL B g n c l k w) (hb : Below w.heap.size w w') : TL B g n c l k w' := by
 obtain ⟨m, h1, h2, h3⟩ := h.ex
 exact ⟨m, h1, own_of_block h2 (fun g hg => hb.block g (h2.lt g hg).2), fun q hq => (h3 q hq).step (fun b hlt _ => hb.block b hlt) (fun b _ h => h) hb.size⟩
theorem TL.lt {B g n c k : Nat} {l : List Dot} {w : World} (h : TL B g n c l k w) : B ≤ g ∧ g < w.heap.size := by
 obtain ⟨m, h1, h2, h3⟩ := h.ex
 exact h2.lt g rfl
theorem TL.len {B g n c k : Nat} {l : List Dot} {w : World} (h : TL B g n c l k w) : l.length = n := by
 obtain ⟨m, h1, h2, h3⟩ := h.ex
 have e1 := congrArg List.length h1
 have e2 := h2.1
 have e3 := rows_len m
 simp only [List.length_map, List.length_append, List.length_take, List.length_drop] at e1
 omega
theorem TL.at_ {B g n c k : Nat} {l : List Dot} {w : World} (h : TL B g n c l k w) (hk : k < n) :
 ∃ (d : Dot) (s : Sl), l[k]? = some d ∧ w.cell? ⟨g, k * 18, none⟩ = some (.slice s.A s.n s.c) ∧ w.frozen? ⟨g, k * 18, none⟩ = false ∧ Rd w w.heap.size 2 s.A s.n s.c (d.attrs.map enc2) := by
 have hl := h.len
 obtain ⟨m, h1, h2, h3⟩ := h.ex
 have e1 := congrArg List.length h1
 simp only [List.length_map, List.length_append, List.length_take, List.length_drop] at e1
 have hkm : k < m.length := by omega
 have hd : (m.map (·.1))[k]? = l[k]? := by
  rw [h1, List.getElem?_append_right (by simp; omega), List.length_map, List.length_take, Nat.min_eq_left (by omega), Nat.sub_self, List.getElem?_drop, Nat.add_zero]
 rw [List.getElem?_map, List.getElem?_eq_getElem hkm] at hd
 have hx := h3 _ (List.getElem_mem hkm)
 rcases h2.2 with ⟨h0, _⟩ | ⟨g', cap, cur, hv, hbg, hh, hnc, hcm, hs, ht⟩
 · cases h0
 injection hv with hv _ _
 injection hv with hv
 injection hv with hv
 subst hv
 refine ⟨m[k].1, m[k].2.a, hd.symm, ?_, frozen_blk hh _, hx.pt.a⟩
 rw [cell_of_row w g (k * 18) cur 42 _ hh]
 have q1 : (rowsD m).flatten[k * 18 + 0]? = (dotCells m[k].1 m[k].2)[0]? := flatten_at 18 (rowsD m) k 0 _ (fun r hr => by obtain ⟨q, _, rfl⟩ := List.mem_map.1 hr; rfl) (by rw [rowsD, List.getElem?_map, List.getElem?_eq_getElem hkm]; rfl) (by decide)
 rw [← ht, Nat.add_zero, List.getElem?_take] at q1
 split at q1
 · rw [Array.getElem?_toList] at q1
   exact q1
 · cases q1
theorem TL.step {B g n c k : Nat} {l : List Dot} {w w1 : World} (h : TL B g n c l k w) (hk : k < n) {d : Dot} (hd : l[k]? = some d) (hb : Below w.heap.size w w1) {A : Option Addr} {j q : Nat} (hr : Rd w1 w1.heap.size 2 A j q (d.attrs.reverse.map enc2)) (hA : ∀ b o t, A = some ⟨b, o, t⟩ → w.heap.size ≤ b) :
 TL B g n c l (k + 1) (w1.setCell ⟨g, k * 18, none⟩ (.slice A j q)) := by
 have hlt := h.lt
 have h' := h.below hb
 have hl := h.len
 obtain ⟨m, h1, h2, h3⟩ := h'.ex
 have e1 := congrArg List.length h1
 simp only [List.length_map, List.length_append, List.length_take, List.length_drop] at e1
 have hkm : k < m.length := by omega
 have hdm : m[k].1 = d := by
  have hd' : (m.map (·.1))[k]? = l[k]? := by
   rw [h1, List.getElem?_append_right (by simp; omega), List.length_map, List.length_take, Nat.min_eq_left (by omega), Nat.sub_self, List.getElem?_drop, Nat.add_zero]
  rw [List.getElem?_map, List.getElem?_eq_getElem hkm, hd] at hd'
  simpa using hd'
 obtain ⟨s, hs⟩ : ∃ s, s = m[k].2 := ⟨_, rfl⟩
 have hmk : m[k]? = some (d, s) := by rw [List.getElem?_eq_getElem hkm, hs, ← hdm]
 have hx := h3 _ (List.getElem_mem hkm)
 rw [hdm, ← hs] at hx
 have hoth : ∀ b, b ≠ g → (w1.setCell ⟨g, k * 18, none⟩ (.slice A j q)).heap[b]? = w1.heap[b]? := fun b hb => heap_setCell_other _ _ _ _ hb
 have hss : (w1.setCell ⟨g, k * 18, none⟩ (.slice A j q)).heap.size = w1.heap.size := by simp [World.setCell]
 have hkeep : ∀ (d : Dot) (s : Sl5), DotK w1 (fun b => b ≠ g) d s → DotK (w1.setCell ⟨g, k * 18, none⟩ (.slice A j q)) (fun b => b ≠ g) d s := fun d s hp => hp.step (fun b _ hok => hoth b hok) (fun b _ h => h) (by rw [hss]; exact Nat.le_refl _)
 refine ⟨m.set k (turnDot d, ⟨⟨A, j, q⟩, s.b, s.k, s.p, s.n⟩), ?_, ?_, fun x hx' => ?_⟩
 · (
 rw [List.map_set, h1]
 have hkl : k < l.length := by omega
 have ek : l[k] = d := by rw [List.getElem?_eq_getElem hkl] at hd; simpa using hd
 rw [List.set_append_right _ _ (by simp; omega), List.length_map, List.length_take, Nat.min_eq_left (by omega), Nat.sub_self, List.drop_eq_getElem_cons hkl, List.set_cons_zero, List.take_succ_eq_append_getElem hkl, List.map_append, List.append_assoc, ek]
 rfl)
 · (
 rcases h2.2 with ⟨h0, _⟩ | ⟨g', cap, cur, hv, hbg, hh, hnc, hcm, hsz, ht⟩
 · cases h0
 injection hv with hv _ hv2
 injection hv with hv
 injection hv with hv
 subst hv hv2
 have hfs := flat_set m k d s ⟨A, j, q⟩ (turnDot d) hmk rfl
 refine ⟨?_, .inr ⟨g, c, _, rfl, hbg, heap_setCell_same w1 g (k * 18) _ _ _ hh, hnc, hcm, by simp [hsz], ?_⟩⟩
 · rw [← hfs, List.length_set]; exact h2.1
 · rw [← hfs, ← ht]
   simp [List.take_set])
 · (
 rcases List.mem_or_eq_of_mem_set hx' with hm | rfl
 · exact hkeep _ _ (h3 x hm)
 · (
 refine ⟨⟨?_, (hkeep d s hx).pt.b, (hkeep d s hx).pt.k, (hkeep d s hx).pt.p, (hkeep d s hx).pt.n, ?_⟩, fun t ht b o sp e hn => ?_⟩
 · have hAg : ∀ b o t, A = some ⟨b, o, t⟩ → b ≠ g := fun b o t e => by have := hA b o t e; omega
   exact hr.stay (t := ⟨A, j, q⟩) (ok := fun b => b ≠ g) (fun b o sp e _ => hAg b o sp e) (fun b _ hok => hoth b hok) (by rw [hss]; exact Nat.le_refl _)
 · exact ⟨fun x hx' => hx.pt.ok.attrs x (by simpa [turnDot] using hx'), hx.pt.ok.value, hx.pt.ok.sum, hx.pt.ok.min, hx.pt.ok.max, hx.pt.ok.bounds⟩
 · (
 simp only [List.mem_cons, List.not_mem_nil, or_false] at ht
 rcases ht with rfl | ht
 · have := hA b o sp e; omega
 · exact hx.ok t (by simp only [List.mem_cons, List.not_mem_nil, or_false]; exact .inr ht) b o sp e hn)))
/-- The loop over b's dots. -/
structure TLR (a : Data) (Wb : World) (xb Bg n : Nat) (A : Option Addr) (c : Nat) (L : List Dot) (k : Nat) (w : World) : Prop where
 bel : Below Wb.heap.size Wb w
 blk : w.heap[xb]? = some (.cells #[.int .u8 a.kind, .bool a.float, .bool a.delta, .bool a.mono, .slice A n c] 24 (0, 0))
 tl : 0 < n → ∃ g, A = some ⟨g, 0, none⟩ ∧ TL Bg g n c L k w
 cap : n ≤ c ∧ c ≤ 9223372036854775807 ∧ n ≤ 1000
 lt : Wb.heap.size ≤ xb ∧ xb < Bg
 len : L.length = n
theorem TLR.first {a : Data} {Wb w : World} {xb n c : Nat} {A : Option Addr} {l : List (Dot × Sl5)} (hb : Below Wb.heap.size Wb w) (hz : w.heap[xb]? = some (.cells #[.int .u8 a.kind, .bool a.float, .bool a.delta, .bool a.mono, .slice A n c] 24 (0, 0)))
 {Bg : Nat} (hown : w.ownsRow Bg 42 18 (.slice A n c) n (rowsD l).flatten) (hn : n ≤ 1000) (hxb : Wb.heap.size ≤ xb ∧ xb < Bg) (hl : l.length = n) {B0 : Nat} (hd : ∀ x ∈ l, DotR w B0 x.1 x.2) (hB0 : B0 ≤ Wb.heap.size) : TLR a Wb xb Bg n A c (l.map (·.1)) 0 w := by
 obtain ⟨A', c', hv, hrd, hlt⟩ := rd_of_own hown (fun r hr => by obtain ⟨q, _, rfl⟩ := List.mem_map.1 hr; rfl) (by simp [rowsD, hl]) (by omega)
 injection hv with e1 _ e2
 subst e1 e2
 refine ⟨hb, hz, fun h0 => ?_, ⟨hrd.cap, hrd.ctop, hn⟩, hxb, by simp [hl]⟩
 obtain ⟨g, cap, hv, hbg, hlt', _, _⟩ := own_some hown h0
 injection hv with e1 _ _
 refine ⟨g, e1, l, by simp, by rw [← e1]; exact hown, fun x hx => ⟨(hd x hx).more (Nat.le_trans hB0 hb.size), fun t ht b o sp e hn => ?_⟩⟩
 have hx' := hd x hx
 have hlt : b < B0 := by
  simp only [List.mem_cons, List.not_mem_nil, or_false] at ht
  rcases ht with rfl | rfl | rfl | rfl | rfl
  · exact rdb_lt hx'.a e hn
  · exact rdb_lt (t := x.2.b) hx'.b e hn
  · exact rdb_lt (t := x.2.k) hx'.k e hn
  · exact rdb_lt (t := x.2.p) hx'.p e hn
  · exact rdb_lt (t := x.2.n) hx'.n e hn
 omega
theorem TLR.step {a : Data} {Wb w w1 : World} {xb Bg n k g : Nat} {c : Nat} {L : List Dot} (h : TLR a Wb xb Bg n (some ⟨g, 0, none⟩) c L k w) (hk : k < n) {d : Dot} (hd : L[k]? = some d) (hb : Below w.heap.size w w1) {A : Option Addr} {j q : Nat} (hr : Rd w1 w1.heap.size 2 A j q (d.attrs.reverse.map enc2)) (hA : ∀ b o t, A = some ⟨b, o, t⟩ → w.heap.size ≤ b) :
 TLR a Wb xb Bg n (some ⟨g, 0, none⟩) c L (k + 1) (w1.setCell ⟨g, k * 18, none⟩ (.slice A j q)) := by
 obtain ⟨h1, h2, h3, h4, h5, h6⟩ := h
 obtain ⟨g', e, ht⟩ := h3 (by omega)
 injection e with e
 injection e with e
 subst e
 have hlt := ht.lt
 refine ⟨(below_then h1 h1.size hb).setCell (by show _ ≤ g; omega) _, ?_, fun _ => ⟨g, rfl, ht.step hk hd hb hr hA⟩, h4, h5, h6⟩
 rw [heap_setCell_other _ _ _ _ (by show xb ≠ g; omega)]
 exact (hb.block _ (by omega)).trans h2
theorem TLR.done {a : Data} {Wb w : World} {xb Bg n : Nat} {A : Option Addr} {c : Nat} {L : List Dot} (h : TLR a Wb xb Bg n A c L n w) : ∃ m : List (Dot × Sl5), m.map (·.1) = L.map turnDot ∧ DotsR w w.heap.size A n c m := by
 obtain ⟨h1, h2, h3, h4, h5, h6⟩ := h
 rcases Nat.eq_zero_or_pos n with h0 | h0
 · (
 subst h0
 have hl : L = [] := List.eq_nil_of_length_eq_zero h6
 subst hl
 exact ⟨[], rfl, ⟨rfl, h4.1, by omega, h4.2.1, by simp, fun h => by omega⟩, by simp⟩)
 · (
 obtain ⟨g, rfl, m, e, hown, hd⟩ := h3 h0
 rw [List.take_of_length_le (by omega), List.drop_eq_nil_of_le (by omega), List.append_nil] at e
 have hm := congrArg List.length e
 simp only [List.length_map] at hm
 obtain ⟨A', c', hv, hrd, _⟩ := rd_of_own hown (fun r hr => by obtain ⟨q, _, rfl⟩ := List.mem_map.1 hr; rfl) (by simp [rowsD]; omega) (by omega)
 injection hv with e1 _ e2
 subst e1 e2
 exact ⟨m, e, hrd, fun x hx => (hd x hx).pt⟩)
end Go.Proofs.YtlpddogcnpokfaaGreatDoor
