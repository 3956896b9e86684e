/- FnCompareBoth returns true for all its arguments: whether two aggregations are equal does not depend on which is first, and what is equal is also equal if times and values are ignored. Conditions: the given statement alone (memory as it names it, the listed tables laid); no other premise. -/
import Derived.Test.YtlpddogcnpokfaaGreatDoorKRw0
import Derived.Test.YtlpddogcnpokfaaGreatDoorKC3
set_option linter.all false
namespace Go.Proofs.YtlpddogcnpokfaaGreatDoor
open Go.RowKit
open Go.ChangeShapes Go.WideShapes Go.ChangeAt Go.Lib
set_option maxRecDepth 100000 in
theorem fnCompareBoth_lifted (os : Os) (started : os.Started) (H : Type) (enc : TypeId × Value → H) :
 ReturnsInHanded {} Tryz.checked os 3 .any (fun w args => (Rows.fnCompareBothSpec.pre enc Tryz.prog Tryz.f3 [] false w args ∧ laidMetH Tryz.prog laidL w) ∧ sizedMet enc Tryz.prog Tryz.f3 (OpenSpec.ofChange Rows.fnCompareBothSpec) false w args)
  (Rows.fnCompareBothSpec.post enc Tryz.prog Tryz.f3 false true false false) := by
 refine returnsInHanded_of_change_and (C := Tryz.checked) (X := fun w _ => laidMetH Tryz.prog laidL w) (fun _ _ _ hh h => h.of_heap hh) own started (by kernel_rfl) Tryz.func3
  (ChangeSpec.witness_shaped (enc := enc) (C := Tryz.checked) (os := os) (X := fun w _ => laidMetH Tryz.prog laidL w) false (World.laidAll Tryz.prog os laidL) #[.agg #[.int .u8 0, .bool false, .bool false, .bool false, .slice none 0 0], .agg #[.int .u8 0, .bool false, .bool false, .bool false, .slice none 0 0]] 8 (World.laidAll_os _ _ _)
   (World.shaped_of_ZipB (by kernel_rfl) (by kernel_rfl)) (by kernel_rfl) (by kernel_rfl) (by kernel_rfl)
   (by rw [MakeChecks.laidMetH_plain _ _ _ (by kernel_rfl)]; exact laidMet_laidAll _ (by kernel_rfl) (by kernel_rfl))) ?_
 intro W base args ds gs before hval0 hW _ hsz hL _
 have hval : ∀ (j : Nat) t v, Tryz.f3.params[j]? = some t → args[j]? = some v → Value.okWide Tryz.prog W .any base t v := hval0
 have hW' := hW
 obtain ⟨p, q, hA0, hV, rfl, _, _⟩ := hW
 have hA : DataW.TrodAll enc Tryz.prog W 0 (fun _ => true) true Tryz.f3.params.toList args.toList ds p := hA0
 rw [Tryz.params3] at hA hval hsz
 obtain ⟨v0, vs0, d0, ds0, p0, q0, hargs, rfl, rfl, h0, r0⟩ := trodAll_cons hA
 obtain ⟨v1, vs1, d1, ds1, p1, q1, rfl, rfl, rfl, h1, r1⟩ := trodAll_cons r0
 obtain ⟨rfl, rfl, rfl⟩ := trodAll_nil r1
 obtain rfl : args = #[v0, v1] := by cases args; simp_all
 obtain ⟨rfl, rfl⟩ := trodVars_none hV
 simp only [List.append_nil] at hW' hsz
 have hlt : ∀ x ∈ p0 ++ (p1 ++ []), x.block < W.heap.size := fun x hx => by
  have := hW'.lt x (by simpa using hx)
  simpa using this
 have hk0 := h0
 obtain ⟨fuel0, hf0⟩ := h0
 have hL0 : Light 24 d0 := fun m hm => by
  have := List.all_eq_true.1 hsz m (DataW.weights_mem_each (j := 0) (t := 24) (d := d0) rfl rfl m hm)
  simpa using this
 obtain ⟨cs0, hc0, _⟩ := okWide_struct Tryz.underlying24 (hval 0 24 v0 rfl rfl)
 subst hc0
 obtain ⟨a0, A0, n0, c0, hd0, hR0⟩ := open_data (w := W) hf0 hL0
 have he0 : (Value.agg cs0) = .agg #[.int .u8 a0.kind, .bool a0.float, .bool a0.delta, .bool a0.mono, .slice A0 n0 c0] := by
  have h1 : cs0.toList = [.int .u8 a0.kind, .bool a0.float, .bool a0.delta, .bool a0.mono, .slice A0 n0 c0] := hd0
  exact congrArg Value.agg (Array.toList_inj.1 h1)
 have hk1 := h1
 obtain ⟨fuel1, hf1⟩ := h1
 have hL1 : Light 24 d1 := fun m hm => by
  have := List.all_eq_true.1 hsz m (DataW.weights_mem_each (j := 1) (t := 24) (d := d1) rfl rfl m hm)
  simpa using this
 obtain ⟨cs1, hc1, _⟩ := okWide_struct Tryz.underlying24 (hval 1 24 v1 rfl rfl)
 subst hc1
 obtain ⟨a1, A1, n1, c1, hd1, hR1⟩ := open_data (w := W) hf1 hL1
 have he1 : (Value.agg cs1) = .agg #[.int .u8 a1.kind, .bool a1.float, .bool a1.delta, .bool a1.mono, .slice A1 n1 c1] := by
  have h1 : cs1.toList = [.int .u8 a1.kind, .bool a1.float, .bool a1.delta, .bool a1.mono, .slice A1 n1 c1] := hd1
  exact congrArg Value.agg (Array.toList_inj.1 h1)
 obtain ⟨hT, hT4⟩ := tabs_of hL
 have hpost : ∀ W' : World, Below W.heap.size W W' → Rows.fnCompareBothSpec.post enc Tryz.prog Tryz.f3 false true false false W #[.agg cs0, .agg cs1] (.bool true) W' := fun W' hb =>
  ⟨_, _, _, [], _, [], hW', trodAll_mk1 (shut_bool Tryz.underlying4 _), (trodAll_cons_mk (Below.trod laidOut' (by kernel_rfl) (of_decide_eq_true (by kernel_rfl)) hk0 hb (fun x hx => hlt x (by simp [hx]))) (trodAll_cons_mk (Below.trod laidOut' (by kernel_rfl) (of_decide_eq_true (by kernel_rfl)) hk1 hb (fun x hx => hlt x (by simp [hx]))) trodAll_mk0)), rfl, hb.frame _, fun h => by cases h⟩
 have hwalk := c3 a0 a1 A0 A1 n0 c0 n1 c1 W hR0 hR1 hT hT4
 rw [← he0, ← he1] at hwalk
 refine hwalk.mono fun e W' ⟨he, hb⟩ => ?_
 subst he
 exact ⟨_, rfl, hpost W' hb⟩
theorem fnCompareBoth_named : Tryz.prog.funcNamed "pub-tallier/laws.FnCompareBoth" = some 3 := by kernel_rfl
set_option maxRecDepth 100000 in
set_option maxHeartbeats 4000000 in
theorem fnCompareBoth_closed : joinedFacts Tryz.prog 3 Tryz.f3 Rows.fnCompareBothSpec Rows.fnCompareBothRow = true := by
 unfold joinedFacts
 simp only [Bool.and_eq_true]
 repeat' apply And.intro
 all_goals as_aux_lemma => kernel_rfl
theorem fnCompareBoth_inst : Tryz.f3.isInstance Tryz.prog Rows.fnCompareBothRow.origin Rows.fnCompareBothRow.targs := of_decide_eq_true (by kernel_rfl)
theorem fnCompareBoth_wrap : Tryz.f3.isWrapper Tryz.prog Rows.fnCompareBothRow.wrapper Rows.fnCompareBothRow.mainSum := by
 unfold Func.isWrapper
 first
  | (rw [if_pos (by decide +kernel)]; kernel_rfl)
  | (rw [if_neg (by decide +kernel)]; exact ⟨rfl, rfl⟩)
theorem fnCompareBoth_holds : Rows.FnCompareBothSaid :=
 OpenClaim.holds_of_wide 3 Tryz.f3 rfl rfl rfl rfl rfl rfl rfl ⟨rfl, rfl, rfl, rfl, rfl⟩ rfl rfl rfl rfl rfl fnCompareBoth_named Tryz.func3 fnCompareBoth_closed fnCompareBoth_inst fnCompareBoth_wrap
  (fun os started H enc _ => fnCompareBoth_lifted os started H enc)
theorem fnCompareBoth_card : Rows.FnCompareBothCardSaid :=
 Claim7.holds_tied_plain_at .later [] [.data, .data, .data, .data, .data, .pinned, .pinned, .pinned] true (true, "b2541eade320b339736fa390ee2067b6974f873953a03ecaa97123cff4181fad") true
  fnCompareBoth_holds (fun _ h => by cases h) (by kernel_rfl) (fun _ h => by cases h) fnCompareBoth_row_tie rfl ⟨rfl, rfl⟩ (by kernel_rfl) rfl
  (fun f fn hf hfn => by
   obtain rfl : f = 3 := Option.some.inj ((show Tryz.prog.funcNamed "pub-tallier/laws.FnCompareBoth" = some 3 by kernel_rfl).symm.trans hf) |>.symm
   obtain rfl : fn = Tryz.f3 := (Option.some.inj (Tryz.func3.symm.trans hfn)).symm
   exact ⟨by kernel_rfl, fun j t ht => by
    rw [Tryz.params3] at ht
    have hm : t ∈ [24, 24] := by simpa using Array.mem_of_getElem? ht
    have hall : ([24, 24].all fun u => !Tryz.prog.wantsStandIn u) = true := by kernel_rfl
    exact (show Tryz.prog.wantsStandIn t = false by simpa using List.all_eq_true.1 hall t hm)⟩)
  (by kernel_rfl)
#print axioms fnCompareBoth_card
end Go.Proofs.YtlpddogcnpokfaaGreatDoor
