/- Contracts of functions of the program, for the comparison of aggregations (part KEqv). -/
import Derived.Test.YtlpddogcnpokfaaGreatDoorKLa
set_option linter.all false
namespace Go.Proofs.YtlpddogcnpokfaaGreatDoor
open Go.RowKit
/-! ### The equality of aggregations, in plain words -/
theorem beqI_symm (a b : Int) : (a == b) = (b == a) := by
 by_cases h : a = b
 · rw [h]
 · rw [beq_eq_false_iff_ne.2 h, beq_eq_false_iff_ne.2 (Ne.symm h)]
theorem beqB_symm (a b : Bool) : (a == b) = (b == a) := by cases a <;> cases b <;> rfl
theorem dVal_symm (fl : Bool) (a b : Int) : dVal fl a b = dVal fl b a := by
 unfold dVal
 cases fl
 · exact beqI_symm a b
 · exact feq_symm _ _
theorem dVal_trans (fl : Bool) {a b c : Int} (h : dVal fl a b = true) (k : dVal fl b c = true) : dVal fl a c = true := by
 unfold dVal at *
 cases fl
 · simp only [Bool.false_eq_true, if_false, beq_iff_eq] at *
   exact h.trans k
 · simp only [if_true] at *
   exact feq_trans h k
theorem listEq_symm {α : Type} {p : α → α → Bool} (hp : ∀ a b, p a b = p b a) : ∀ xs ys : List α, listEq p xs ys = listEq p ys xs
 | [], [] => rfl
 | [], _ :: _ => rfl
 | _ :: _, [] => rfl
 | x :: xs, y :: ys => by simp only [listEq, hp x y, listEq_symm hp xs ys]
theorem listEq_trans {α : Type} {p : α → α → Bool} (hp : ∀ a b c, p a b = true → p b c = true → p a c = true) : ∀ {xs ys zs : List α}, listEq p xs ys = true → listEq p ys zs = true → listEq p xs zs = true
 | [], [], [], _, _ => rfl
 | [], [], _ :: _, _, k => by simp [listEq] at k
 | [], _ :: _, _, h, _ => by simp [listEq] at h
 | _ :: _, [], _, h, _ => by simp [listEq] at h
 | _ :: _, _ :: _, [], _, k => by simp [listEq] at k
 | x :: xs, y :: ys, z :: zs, h, k => by
  simp only [listEq, Bool.and_eq_true] at *
  exact ⟨hp _ _ _ h.1 k.1, listEq_trans hp h.2 k.2⟩
theorem dExt_symm (fl h k : Bool) (a b : Int) : dExt fl h k a b = dExt fl k h b a := by
 unfold dExt
 rw [dVal_symm fl a b]
 cases h <;> cases k <;> rfl
theorem dExt_trans (fl h k l : Bool) {a b c : Int} (x : dExt fl h k a b = true) (y : dExt fl k l b c = true) : dExt fl h l a c = true := by
 unfold dExt at *
 cases h <;> cases k <;> cases l <;> simp_all
 exact dVal_trans fl x y
theorem eq2_symm (x y : KV) : eq2 x y = eq2 y x := by
 unfold eq2
 rw [Bool.eq_iff_iff]
 simp only [Bool.and_eq_true, beq_iff_eq]
 exact ⟨fun h => ⟨h.1.symm, h.2.symm⟩, fun h => ⟨h.1.symm, h.2.symm⟩⟩
theorem eq2_trans {x y z : KV} (h : eq2 x y = true) (k : eq2 y z = true) : eq2 x z = true := by
 unfold eq2 at *
 simp only [Bool.and_eq_true, beq_iff_eq] at *
 exact ⟨h.1.trans k.1, h.2.trans k.2⟩
theorem beqT {a b c : Int} (h : (a == b) = true) (k : (b == c) = true) : (a == c) = true := by simp only [beq_iff_eq] at *; exact h.trans k
theorem dotVal_symm (kd : Int) (fl : Bool) (x y : Dot) : dotVal kd fl x y = dotVal kd fl y x := by
 unfold dotVal extEq
 rw [dVal_symm fl x.sum y.sum, dVal_symm fl x.value y.value, dExt_symm fl x.hasMin y.hasMin, dExt_symm fl x.hasMax y.hasMax, beqI_symm x.count, beqI_symm x.scale, beqI_symm x.zero, beqI_symm x.posOff, beqI_symm x.negOff, listEq_symm (dVal_symm true) x.bounds, listEq_symm beqI_symm x.buckets, listEq_symm beqI_symm x.pos, listEq_symm beqI_symm x.neg]
theorem dotVal_trans (kd : Int) (fl : Bool) {x y z : Dot} (h : dotVal kd fl x y = true) (k : dotVal kd fl y z = true) : dotVal kd fl x z = true := by
 unfold dotVal extEq at *
 by_cases h4 : kd = 4
 · simp only [h4, if_true, Bool.and_eq_true] at *
   exact ⟨beqT h.1 k.1, listEq_trans (p := dVal true) (fun _ _ _ => dVal_trans true) h.2.1 k.2.1, listEq_trans (p := fun a b : Int => a == b) (fun _ _ _ => beqT) h.2.2.1 k.2.2.1, ⟨dExt_trans fl _ _ _ h.2.2.2.1.1 k.2.2.2.1.1, dExt_trans fl _ _ _ h.2.2.2.1.2 k.2.2.2.1.2⟩, dVal_trans fl h.2.2.2.2 k.2.2.2.2⟩
 · (
 by_cases h5 : kd = 5
 · (
 have e : ¬ (5 : Int) = 4 := by decide
 simp only [h5, e, if_true, if_false, Bool.and_eq_true] at *
 obtain ⟨a1, ⟨a2, a3⟩, a4, a5, a6, a7, a8, a9, a10⟩ := h
 obtain ⟨b1, ⟨b2, b3⟩, b4, b5, b6, b7, b8, b9, b10⟩ := k
 exact ⟨beqT a1 b1, ⟨dExt_trans fl _ _ _ a2 b2, dExt_trans fl _ _ _ a3 b3⟩, dVal_trans fl a4 b4, beqT a5 b5, beqT a6 b6, beqT a7 b7, listEq_trans (p := fun a b : Int => a == b) (fun _ _ _ => beqT) a8 b8, beqT a9 b9, listEq_trans (p := fun a b : Int => a == b) (fun _ _ _ => beqT) a10 b10⟩)
 · simp only [h4, h5, if_false] at *
   exact dVal_trans fl h k)
theorem timesEq_symm (it : Bool) (x y : Dot) : timesEq it x y = timesEq it y x := by
 unfold timesEq
 rw [beqI_symm x.start, beqI_symm x.time]
theorem sameDot_symm (kd : Int) (fl it iv : Bool) (x y : Dot) : sameDot kd fl it iv x y = sameDot kd fl it iv y x := by
 unfold sameDot attrsEq
 rw [timesEq_symm it x y, dotVal_symm kd fl x y, listEq_symm eq2_symm (sortK x.attrs)]
theorem sameDot_trans (kd : Int) (fl it iv : Bool) {x y z : Dot} (h : sameDot kd fl it iv x y = true) (k : sameDot kd fl it iv y z = true) : sameDot kd fl it iv x z = true := by
 unfold sameDot attrsEq timesEq at *
 simp only [Bool.and_eq_true, Bool.or_eq_true] at *
 refine ⟨⟨listEq_trans (p := eq2) (fun _ _ _ => eq2_trans) h.1.1 k.1.1, ?_⟩, ?_⟩
 · (
 rcases h.1.2 with e | e
 · exact .inl e
 · (
 rcases k.1.2 with e' | e'
 · exact .inl e'
 · exact .inr ⟨beqT e.1 e'.1, beqT e.2 e'.2⟩))
 · (
 rcases h.2 with e | e
 · exact .inl e
 · (
 rcases k.2 with e' | e'
 · exact .inl e'
 · exact .inr (dotVal_trans kd fl e e')))
theorem sameDot_dif (kd : Int) (fl it iv : Bool) (xs ys : List Dot) : Dif (sameDot kd fl it iv) xs ys := fun x _ x' _ y _ y' _ h1 h2 h3 =>
 sameDot_trans kd fl it iv h2 (sameDot_trans kd fl it iv ((sameDot_symm kd fl it iv y x).trans h1) h3)
theorem sameDot_mono (kd : Int) (fl it iv : Bool) {x y : Dot} (h : sameDot kd fl it iv x y = true) : sameDot kd fl true true x y = true := by
 unfold sameDot timesEq at *
 simp only [Bool.and_eq_true, Bool.or_eq_true] at *
 exact ⟨⟨h.1.1, .inl (by trivial)⟩, .inl (by trivial)⟩
theorem headEq_symm (a b : Data) : headEq a b = headEq b a := by
 unfold headEq
 by_cases hk : a.kind = b.kind
 · (
 rw [hk, beqB_symm a.float, beqB_symm a.delta, beqB_symm a.mono]
 congr 1
 by_cases hl : a.dots.length = b.dots.length
 · rw [hl]
 · rw [beq_eq_false_iff_ne.2 hl, beq_eq_false_iff_ne.2 (Ne.symm hl)])
 · (
 have h1 : (a.kind == b.kind) = false := beq_eq_false_iff_ne.2 hk
 have h2 : (b.kind == a.kind) = false := beq_eq_false_iff_ne.2 (Ne.symm hk)
 simp [h1, h2])
theorem head_kind {a b : Data} (h : headEq a b = true) : a.kind = b.kind ∧ a.float = b.float ∧ a.dots.length = b.dots.length := by
 unfold headEq at h
 simp only [Bool.and_eq_true, beq_iff_eq] at h
 exact ⟨h.1.1.1.1, h.1.1.1.2, h.2⟩
theorem sameData_symm (it iv : Bool) (a b : Data) : sameData it iv a b = sameData it iv b a := by
 unfold sameData
 rw [headEq_symm a b]
 cases hh : headEq b a with
 | false => rfl
 | true =>
  obtain ⟨hk, hf, hl⟩ := head_kind hh
  simp only [Bool.true_and]
  rw [sameDots_greedy, sameDots_greedy, ← hk, ← hf]
  exact greedy_flip (by simp [hl]) (sameDot_dif _ _ _ _ _ _) (sameDot_dif _ _ _ _ _ _) (fun x _ y _ => sameDot_symm _ _ _ _ x y)
theorem sameData_mono (it iv : Bool) {a b : Data} (h : sameData it iv a b = true) : sameData true true a b = true := by
 unfold sameData at *
 simp only [Bool.and_eq_true] at *
 obtain ⟨hk, hf, hl⟩ := head_kind h.1
 refine ⟨h.1, ?_⟩
 rw [sameDots_greedy] at *
 exact greedy_mono (by simp [hl]) (sameDot_dif _ _ _ _ _ _) (fun x _ y _ hxy => sameDot_mono _ _ _ _ hxy) h.2
end Go.Proofs.YtlpddogcnpokfaaGreatDoor
