/- Contracts of functions of the program, for the comparison of aggregations (part KLa). -/
import Derived.Test.YtlpddogcnpokfaaGreatDoorKDm1
set_option linter.all false
namespace Go.Proofs.YtlpddogcnpokfaaGreatDoor
open Go.RowKit
/-! ### The comparison of points that are made: in plain words -/
theorem takeOut_takeP (p : Dot → Bool) : ∀ (l : List (Dot × Sl5)), (takeOut p l).map (List.map (·.1)) = takeP p (l.map (·.1))
 | [] => rfl
 | y :: r => by
  simp only [takeOut, List.map_cons, takeP]
  split
  · rfl
  · rw [← takeOut_takeP p r]
    cases takeOut p r <;> rfl
theorem sameDots_greedy (p : Dot → Dot → Bool) : ∀ (xs ys : List (Dot × Sl5)), sameDots p xs ys = greedy p (xs.map (·.1)) (ys.map (·.1))
 | [], _ => rfl
 | x :: xs, ys => by
  simp only [sameDots, List.map_cons, greedy]
  rw [← takeOut_takeP]
  cases takeOut (p x.1) ys with
  | none => rfl
  | some r => exact sameDots_greedy p xs r
theorem takeP_map {α β : Type} (f : β → α) (q : α → Bool) : ∀ (l : List β), (takeP (fun b => q (f b)) l).map (List.map f) = takeP q (l.map f)
 | [] => rfl
 | y :: r => by
  simp only [takeP, List.map_cons]
  split
  · rfl
  · rw [← takeP_map f q r]
    cases takeP (fun b => q (f b)) r <;> rfl
theorem greedy_map {α β : Type} (f : β → α) (p : α → α → Bool) : ∀ (xs ys : List β), greedy (fun a b => p (f a) (f b)) xs ys = greedy p (xs.map f) (ys.map f)
 | [], _ => rfl
 | x :: xs, ys => by
  simp only [greedy, List.map_cons]
  rw [← takeP_map f (p (f x)) ys]
  cases takeP (fun b => p (f x) (f b)) ys with
  | none => rfl
  | some r => exact greedy_map f p xs r
theorem takeP_congr {α : Type} {q q' : α → Bool} : ∀ {l : List α}, (∀ y ∈ l, q y = q' y) → takeP q l = takeP q' l
 | [], _ => rfl
 | y :: r, h => by
  simp only [takeP]
  rw [h y (by simp), takeP_congr fun z hz => h z (by simp [hz])]
theorem takeP_sub {α : Type} {q : α → Bool} {l r : List α} (h : takeP q l = some r) : ∀ y ∈ r, y ∈ l := fun y hy => by
 obtain ⟨z, _, _, hp⟩ := takeP_some h
 exact hp.mem_iff.1 (by simp [hy])
theorem greedy_congr {α : Type} {p p' : α → α → Bool} : ∀ {xs ys : List α}, (∀ x ∈ xs, ∀ y ∈ ys, p x y = p' x y) → greedy p xs ys = greedy p' xs ys
 | [], _, _ => rfl
 | x :: xs, ys, h => by
  simp only [greedy]
  rw [takeP_congr (fun y hy => h x (by simp) y hy)]
  cases e : takeP (p' x) ys with
  | none => rfl
  | some r => exact greedy_congr fun a ha b hb => h a (by simp [ha]) b (takeP_sub e b hb)
def madeD (kd : Int) (fl : Bool) : Dot → Dot := if kd = 4 then mkHp fl else if kd = 5 then mkEp fl else mkDp fl
def madeEq (kd : Int) (fl it iv : Bool) (q r : Dot × Sl5) : Bool :=
 if kd = 4 then (if fl then hpFEq it iv q r else hpIEq it iv q r) else if kd = 5 then (if fl then epFEq it iv q r else epIEq it iv q r) else (if fl then dpFEq it iv q r else dpIEq it iv q r)
theorem wrap_inj {a b : Int} (ha : U64 a) (hb : U64 b) (h : wrap64 a = wrap64 b) : a = b := by
 obtain ⟨a1, a2⟩ := ha
 obtain ⟨b1, b2⟩ := hb
 unfold wrap64 at h
 omega
theorem dVal_cv (fl : Bool) {a b : Int} (ha : U64 a) (hb : U64 b) : dVal fl (cv fl a) (cv fl b) = dVal fl a b := by
 cases fl
 · (
 show (wrap64 a == wrap64 b) = (a == b)
 by_cases h : a = b
 · rw [h]; simp only [beq_self_eq_true]
 · have h2 : wrap64 a ≠ wrap64 b := fun e => h (wrap_inj ha hb e)
   rw [beq_eq_false_iff_ne.2 h, beq_eq_false_iff_ne.2 h2])
 · rfl
theorem dExt_cv (fl h k : Bool) {a b : Int} (ha : U64 a) (hb : U64 b) : dExt fl h k (if h then cv fl a else 0) (if k then cv fl b else 0) = dExt fl h k a b := by
 unfold dExt
 cases h <;> cases k <;> simp [dVal_cv fl ha hb]
theorem madeEq_same {kd : Int} (fl it iv : Bool) {x y : Dot} (hx : x.Ok) (hy : y.Ok) (s t : Sl5) : madeEq kd fl it iv (madeD kd fl x, s) (madeD kd fl y, t) = sameDot kd fl it iv x y := by
 have e1 := dVal_cv fl hx.value hy.value
 have e2 := dVal_cv fl hx.sum hy.sum
 have e3 := dExt_cv fl x.hasMin y.hasMin hx.min hy.min
 have e4 := dExt_cv fl x.hasMax y.hasMax hx.max hy.max
 have ek : keq = eq2 := rfl
 unfold madeEq madeD sameDot dotVal attrsEq timesEq extEq
 by_cases h4 : kd = 4
 · (
 subst h4
 cases fl
 all_goals
  simp only [↓reduceIte, if_true, Bool.false_eq_true, if_false, hpFEq, hpIEq, mkHp, e2, e3, e4, ek, Bool.and_assoc])
 · (
 by_cases h5 : kd = 5
 · (
 subst h5
 cases fl
 all_goals
  simp only [↓reduceIte, Int.reduceEq, if_true, Bool.false_eq_true, if_false, epFEq, epIEq, mkEp, e2, e3, e4, ek, Bool.and_assoc])
 · (
 cases fl
 all_goals
  simp only [↓reduceIte, h4, h5, if_true, Bool.false_eq_true, if_false, dpFEq, dpIEq, mkDp, e1, ek, Bool.and_assoc]))
theorem diff_made {kd : Int} (fl it iv : Bool) {xs ys : List (Dot × Sl5)} {l m : List Dot} (hx : xs.map (·.1) = l.map (madeD kd fl)) (hy : ys.map (·.1) = m.map (madeD kd fl)) (hl : ∀ x ∈ l, x.Ok) (hm : ∀ y ∈ m, y.Ok) :
 diffSame (madeEq kd fl it iv) xs ys = (l.length == m.length && greedy (sameDot kd fl it iv) l m) := by
 have l1 : xs.length = l.length := by have := congrArg List.length hx; simpa using this
 have l2 : ys.length = m.length := by have := congrArg List.length hy; simpa using this
 rw [diffSame_eq, l1, l2]
 have e : greedy (madeEq kd fl it iv) xs ys = greedy (sameDot kd fl it iv) l m := by
  have e1 : madeEq kd fl it iv = fun a b => (fun x y : Dot => madeEq kd fl it iv (x, sl0) (y, sl0)) a.1 b.1 := rfl
  rw [e1, greedy_map (·.1) (fun x y : Dot => madeEq kd fl it iv (x, sl0) (y, sl0)) xs ys, hx, hy, ← greedy_map (madeD kd fl)]
  exact greedy_congr fun x h y k => madeEq_same fl it iv (hl x h) (hm y k) sl0 sl0
 rw [e]
end Go.Proofs.YtlpddogcnpokfaaGreatDoor
