/- Contracts of functions of the program, for the comparison of aggregations (part KRight). -/
import Derived.Test.YtlpddogcnpokfaaGreatDoorKA1
set_option linter.all false
namespace Go.Proofs.YtlpddogcnpokfaaGreatDoor
open Go.RowKit
/-! ### DataRight -/
def isNum (x : Int) : Bool := Op.floatEq .f64 x.toNat x.toNat
structure DotRight (fl : Bool) (d : Dot) : Prop where
 nattr : d.attrs.length ≤ 8
 nb : d.bounds.length ≤ 50
 nk : d.buckets.length ≤ 50
 np : d.pos.length ≤ 50
 nn : d.neg.length ≤ 50
 sizes : ∀ x ∈ d.attrs, x.key.size ≤ 100 ∧ x.str.size ≤ 100
 apart : ∀ (i j : Nat) (a b : KV), j < i → d.attrs[i]? = some a → d.attrs[j]? = some b → a.key ≠ b.key
 bounds : ∀ x ∈ d.bounds, isNum x = true
 nums : fl = true → isNum d.value = true ∧ isNum d.sum = true ∧ isNum d.min = true ∧ isNum d.max = true
def Right (kd : Int) (fl : Bool) (l : List (Dot × Sl5)) : Prop := (kd = 0 ∨ kd = 2 ∨ kd = 4 ∨ kd = 5) ∧ l.length ≤ 20 ∧ ∀ x ∈ l, DotRight fl x.1
def PostR (P : Prop) (w : World) (e : Ending) (w' : World) : Prop := (∃ r : Bool, e = .returned (.bool r) ∧ (r = true → P)) ∧ Below w.heap.size w w'
theorem PostR.no {P : Prop} {w w' : World} (h : Below w.heap.size w w') : PostR P w (.returned (.bool false)) w' := ⟨⟨false, rfl, by simp⟩, h⟩
theorem PostR.yes {P : Prop} {w w' : World} (h : Below w.heap.size w w') (hp : P) : PostR P w (.returned (.bool true)) w' := ⟨⟨true, rfl, fun _ => hp⟩, h⟩
set_option maxRecDepth 100000 in
set_option maxHeartbeats 1000000 in
theorem c7_no (kd : Int) (f dl m : Bool) (A : Option Addr) (n c : Nat) (w : World) (htop : n ≤ 140737488351232) (hbad : ¬ ((kd = 0 ∨ kd = 2 ∨ kd = 4 ∨ kd = 5) ∧ n ≤ 20)) (P : Prop) :
 Calls Tryz.prog 7 #[.agg #[.int .u8 kd, .bool f, .bool dl, .bool m, .slice A n c]] w (PostR P w) := by
 by_cases h0 : kd = 0
 · (
 subst h0
 have h20 : ¬ n ≤ 20 := fun h => hbad ⟨.inl rfl, h⟩
 clear hbad
 go_enter Tryz.func7, Tryz.ntmps7
 go_wp2_with fail
 go_ret
 exact PostR.no ((Below.refl _ _).alloc (Nat.le_refl _) _))
 by_cases h2 : kd = 2
 · (
 subst h2
 have h20 : ¬ n ≤ 20 := fun h => hbad ⟨.inr (.inl rfl), h⟩
 clear hbad
 go_enter Tryz.func7, Tryz.ntmps7
 go_wp2_with fail
 go_ret
 exact PostR.no ((Below.refl _ _).alloc (Nat.le_refl _) _))
 by_cases h4 : kd = 4
 · (
 subst h4
 have h20 : ¬ n ≤ 20 := fun h => hbad ⟨.inr (.inr (.inl rfl)), h⟩
 clear hbad
 go_enter Tryz.func7, Tryz.ntmps7
 go_wp2_with fail
 go_ret
 exact PostR.no ((Below.refl _ _).alloc (Nat.le_refl _) _))
 by_cases h5 : kd = 5
 · (
 subst h5
 have h20 : ¬ n ≤ 20 := fun h => hbad ⟨.inr (.inr (.inr rfl)), h⟩
 clear hbad
 go_enter Tryz.func7, Tryz.ntmps7
 go_wp2_with fail
 go_ret
 exact PostR.no ((Below.refl _ _).alloc (Nat.le_refl _) _))
 · (
 clear hbad
 have e0 : (kd != 0) = true := by simpa using h0
 have e2 : (kd != 2) = true := by simpa using h2
 have e4 : (kd != 4) = true := by simpa using h4
 have e5 : (kd != 5) = true := by simpa using h5
 clear h0 h2 h4 h5
 go_enter Tryz.func7, Tryz.ntmps7
 go_wp2_with fail
 go_ret
 exact PostR.no ((Below.refl _ _).alloc (Nat.le_refl _) _))
theorem c18' (a : Int) (w : World) : Calls Tryz.prog 18 #[.int .u64 a] w fun e w' => e = .returned (.bool (isNum a)) ∧ w = w' := c18 a w
theorem keys_step {l : List KV} {q : Nat} {x y : KV} (h : ∀ (j1 : Nat) (b : KV), j1 < q → l[j1]? = some b → x.key ≠ b.key) (hy : l[q]? = some y) (hne : (x.key.toList == y.key.toList) = false) : ∀ (j1 : Nat) (b : KV), j1 < q + 1 → l[j1]? = some b → x.key ≠ b.key := by
 intro j1 b hj hb
 by_cases e : j1 = q
 · (
 subst e
 rw [hy] at hb
 injection hb with hb
 subst hb
 intro he
 rw [he] at hne
 simp at hne)
 · exact h j1 b (by omega) hb
theorem sizes_step {l : List KV} {j : Nat} {x : KV} (h : ∀ (q : Nat) (x : KV), q < j → l[q]? = some x → x.key.size ≤ 100 ∧ x.str.size ≤ 100) (hx : l[j]? = some x) (hs : x.key.size ≤ 100 ∧ x.str.size ≤ 100) : ∀ (q : Nat) (x : KV), q < j + 1 → l[q]? = some x → x.key.size ≤ 100 ∧ x.str.size ≤ 100 := by
 intro q y hq hy
 by_cases e : q = j
 · (
 subst e
 rw [hx] at hy
 injection hy with hy
 subst hy
 exact hs)
 · exact h q y (by omega) hy
theorem apart_step {l : List KV} {j : Nat} {x : KV} (h : ∀ (i1 j1 : Nat) (a b : KV), j1 < i1 → i1 < j → l[i1]? = some a → l[j1]? = some b → a.key ≠ b.key) (hx : l[j]? = some x) (hq : ∀ (j1 : Nat) (b : KV), j1 < j → l[j1]? = some b → x.key ≠ b.key) :
 ∀ (i1 j1 : Nat) (a b : KV), j1 < i1 → i1 < j + 1 → l[i1]? = some a → l[j1]? = some b → a.key ≠ b.key := by
 intro i1 j1 a b hij hi ha hb
 by_cases e : i1 = j
 · (
 subst e
 rw [hx] at ha
 injection ha with ha
 subst ha
 exact hq j1 b hij hb)
 · exact h i1 j1 a b hij (by omega) ha hb
theorem nums_step {l : List Int} {q : Nat} {x : Int} (h : ∀ (j : Nat) (x : Int), j < q → l[j]? = some x → isNum x = true) (hx : l[q]? = some x) (hp : isNum x = true) : ∀ (j : Nat) (x : Int), j < q + 1 → l[j]? = some x → isNum x = true := by
 intro j y hj hy
 by_cases e : j = q
 · (
 subst e
 rw [hx] at hy
 injection hy with hy
 subst hy
 exact hp)
 · exact h j y (by omega) hy
theorem all_step {f : Bool} {l : List (Dot × Sl5)} {k : Nat} {d : Dot} {s : Sl5} (h : ∀ (j : Nat) (x : Dot × Sl5), j < k → l[j]? = some x → DotRight f x.1) (hx : l[k]? = some (d, s)) (hd : DotRight f d) : ∀ (j : Nat) (x : Dot × Sl5), j < k + 1 → l[j]? = some x → DotRight f x.1 := by
 intro j y hj hy
 by_cases e : j = k
 · (
 subst e
 rw [hx] at hy
 injection hy with hy
 subst hy
 exact hd)
 · exact h j y (by omega) hy
set_option maxRecDepth 100000 in
set_option maxHeartbeats 2000000 in
theorem c7_yes (kd : Int) (f dl m : Bool) (A : Option Addr) (n c : Nat) (l : List (Dot × Sl5)) (w : World) (h : DotsR w w.heap.size A n c l) (hkd : kd = 0 ∨ kd = 2 ∨ kd = 4 ∨ kd = 5) (h20 : n ≤ 20) :
 Calls Tryz.prog 7 #[.agg #[.int .u8 kd, .bool f, .bool dl, .bool m, .slice A n c]] w (PostR (Right kd f l) w) := by
 have hcap := h.rd.cap
 have htop := h.rd.top
 have hlen := Lib.hid h.rd.numlen
 have hkd' := Lib.hid hkd
 clear hkd
 go_enter Tryz.func7, Tryz.ntmps7
 go_upto_region 1 with fail
 go_cut [35] (fun s35 wx => s35 = .bool false ∧ wx = w.alloc (.cells #[.int .u8 kd, .bool f, .bool dl, .bool m, .slice A n c] 24))
 case first => (
 have h20' : (20 : Int) < (n : Int) ↔ False := by simp; omega
 rcases hkd'.out with rfl | rfl | rfl | rfl
 all_goals
  go_wp2_with fail
  go_meet
  exact ⟨rfl, rfl⟩)
 case rest => (
 obtain ⟨rfl, rfl⟩ := hcut
 obtain ⟨w0, hw0⟩ : ∃ w0, w0 = w.alloc (.cells #[.int .u8 kd, .bool f, .bool dl, .bool m, .slice A n c] 24) := ⟨_, rfl⟩
 have hs0 : w0.heap.size = w.heap.size + 1 := by rw [hw0]; simp
 have hbox : w0.heap[w.heap.size]? = some (.cells #[.int .u8 kd, .bool f, .bool dl, .bool m, .slice A n c] 24 (0, 0)) := by rw [hw0]; exact heap_alloc_new w _
 have hB0 : Below w.heap.size w w0 := ba hw0
 rw [← hw0]
 have c1 := blk_cell hbox 1 (.bool f) rfl
 have c4 := blk_cell hbox 4 (.slice A n c) rfl
 have hs0' := Lib.hid hs0
 clear hw0 hs0 hbox
 go_wp2_with fail
 go_loopw [39] (fun i wr => ∃ k : Nat, k ≤ n ∧ i = .int .i64 k ∧ Below w0.heap.size w0 wr ∧ ∀ j x, j < k → l[j]? = some x → DotRight f x.1) (fun i _ => n - (intOf i).toNat)
 case atStart => exact ⟨0, Nat.zero_le _, rfl, Below.refl _ _, fun j x hj => by omega⟩
 case round => (
 obtain ⟨k, hk, rfl, hb, hall⟩ := hrel
 obtain ⟨wo, rfl⟩ : ∃ wo : World, wo = wr := ⟨_, rfl⟩
 by_cases hlt : k < n
 · (
 have hbw : Below w.heap.size w wo := hB0.trans (hb.mono (by rw [hs0'.out]; omega))
 obtain ⟨b, o, d, s, rfl, hbB, hx, hd, hc⟩ := (h.below hbw).at_ hlt
 have hdw := h.all _ (List.mem_of_getElem? hx)
 have hX := Lib.hid hx
 have hALL := Lib.hid hall
 clear hx hall
 have ha1 := hd.a.cap
 have ha2 := hd.a.top
 have hbb1 := hd.b.cap
 have hbb2 := hd.b.top
 have hk1 := hd.k.cap
 have hk2 := hd.k.top
 have hp1 := hd.p.cap
 have hp2 := hd.p.top
 have hn1 := hd.n.cap
 have hn2 := hd.n.top
 unfold dotCells at hc
 obtain ⟨⟨aA, an, ac⟩, ⟨bA, bn, bc⟩, ⟨kA, kn, kc⟩, ⟨pA, pn, pc⟩, ⟨nA, nn, nc⟩⟩ := s
 dsimp only at *
 by_cases hsz : an ≤ 8 ∧ bn ≤ 50 ∧ kn ≤ 50 ∧ pn ≤ 50 ∧ nn ≤ 50
 · (
 obtain ⟨z1, z2, z3, z4, z5⟩ := hsz
 go_wp2_with (first | ((with_reducible refine arm_load hc ?_ 18 info42 Tryz.underlying42 ?_ ?_ ?_); rfl; rfl; rfl) | ((with_reducible apply arm_store_new 18 info42); rfl; simp; rfl; rfl; rfl; rfl) | ((with_reducible apply arm_store_new 16 info40); rfl; simp; rfl; rfl; rfl; rfl) | ((with_reducible apply arm_load_topf [] (ptCells d ⟨⟨aA, an, ac⟩, ⟨bA, bn, bc⟩, ⟨kA, kn, kc⟩, ⟨pA, pn, pc⟩, ⟨nA, nn, nc⟩⟩) [.int .i64 d.start, .int .i64 d.time] 0 16 info40 Tryz.underlying40); rfl; rfl; simp; rfl; rfl; rfl; unfold ptCells))
 obtain ⟨W1, hW⟩ : ∃ W1, W1 = (wo.alloc (.cells (dotCells d ⟨⟨aA, an, ac⟩, ⟨bA, bn, bc⟩, ⟨kA, kn, kc⟩, ⟨pA, pn, pc⟩, ⟨nA, nn, nc⟩⟩).toArray 42)).alloc (.cells (ptCells d ⟨⟨aA, an, ac⟩, ⟨bA, bn, bc⟩, ⟨kA, kn, kc⟩, ⟨pA, pn, pc⟩, ⟨nA, nn, nc⟩⟩).toArray 40) := ⟨_, rfl⟩
 have hp1 : W1.heap[wo.heap.size + 1]? = some (.cells (ptCells d ⟨⟨aA, an, ac⟩, ⟨bA, bn, bc⟩, ⟨kA, kn, kc⟩, ⟨pA, pn, pc⟩, ⟨nA, nn, nc⟩⟩).toArray 40 (0, 0)) := by
  rw [hW]
  have := heap_alloc_new (wo.alloc (.cells (dotCells d ⟨⟨aA, an, ac⟩, ⟨bA, bn, bc⟩, ⟨kA, kn, kc⟩, ⟨pA, pn, pc⟩, ⟨nA, nn, nc⟩⟩).toArray 42)) (.cells (ptCells d ⟨⟨aA, an, ac⟩, ⟨bA, bn, bc⟩, ⟨kA, kn, kc⟩, ⟨pA, pn, pc⟩, ⟨nA, nn, nc⟩⟩).toArray 40)
  simpa using this
 have hs1 : W1.heap.size = wo.heap.size + 2 := by rw [hW]; simp
 have hb1 : Below w0.heap.size w0 W1 := by rw [hW]; exact (hb.alloc hb.size _).alloc (by have := hb.size; simp; omega) _
 have hbo1 : Below wo.heap.size wo W1 := by rw [hW]; exact ((Below.refl _ _).alloc (Nat.le_refl _) _).alloc (by simp) _
 unfold dotCells ptCells at hW
 rw [← hW]
 have p0 := blk_cell hp1 0 (.slice aA an ac) rfl
 have p1 := blk_cell hp1 1 (.int .u64 d.value) rfl
 have p3 := blk_cell hp1 3 (.int .u64 d.sum) rfl
 have p6 := blk_cell hp1 6 (.int .u64 d.min) rfl
 have p7 := blk_cell hp1 7 (.int .u64 d.max) rfl
 have p8 := blk_cell hp1 8 (.slice bA bn bc) rfl
 have hbs := hb.size
 have hs1' := Lib.hid hs1
 have hsz1 : wo.heap.size + 1 < W1.heap.size := by omega
 clear hW hp1 hs1 hc
 have hdA : Hid (Rd w w.heap.size 2 aA an ac (d.attrs.map enc2)) := hdw.a
 have hdB : Hid (Rd w w.heap.size 1 bA bn bc (d.bounds.map encU)) := hdw.b
 have hla : Hid (d.attrs.length = an) := hdw.a.numlen
 have hlb : Hid (d.bounds.length = bn) := hdw.b.numlen
 have hok := Lib.hid hdw.ok
 have hlk : Hid (d.buckets.length = kn) := hdw.k.numlen
 have hlp : Hid (d.pos.length = pn) := hdw.p.numlen
 have hln : Hid (d.neg.length = nn) := hdw.n.numlen
 go_loopw [76] (fun i wr => ∃ j : Nat, j ≤ an ∧ i = .int .i64 j ∧ Below W1.heap.size W1 wr ∧ (∀ q x, q < j → d.attrs[q]? = some x → x.key.size ≤ 100 ∧ x.str.size ≤ 100) ∧ (∀ (i1 j1 : Nat) (a b : KV), j1 < i1 → i1 < j → d.attrs[i1]? = some a → d.attrs[j1]? = some b → a.key ≠ b.key)) (fun i _ => an - (intOf i).toNat)
 case atStart => exact ⟨0, Nat.zero_le _, rfl, Below.refl _ _, fun q x hq => by omega, fun i1 j1 a b _ hq => by omega⟩
 case round => (
 obtain ⟨j, hj, rfl, hb2, hsz2, hap2⟩ := hrel
 have hz2 := Lib.hid hsz2
 have ha2' := Lib.hid hap2
 clear hsz2 hap2
 have hbs2 := hb2.size
 obtain ⟨hc2, hf2⟩ := bcell hb2
 have hbw2 : Below w.heap.size w wr := hB0.trans ((hb1.trans (hb2.mono (by omega))).mono (by rw [hs0'.out]; omega))
 by_cases hjl : j < an
 · (
 obtain ⟨b2, o2, r2, rfl, hbB2, hr2, hl2, hcc2⟩ := (hdA.out.below hbw2).at_ hjl
 rw [List.getElem?_map, Option.map_eq_some_iff] at hr2
 obtain ⟨x, hx2, rfl⟩ := hr2
 have q0 := hcc2 0 _ rfl
 have q1 := hcc2 1 _ rfl
 rw [Nat.add_zero] at q0
 have hX2 := Lib.hid hx2
 clear hcc2 hx2 hl2
 have hlt3 : wo.heap.size + 1 < wr.heap.size := by omega
 have hj3 : (j : Int) ≤ (ac : Int) := by omega
 have hlt4 : w.heap.size < wr.heap.size := by have := hs0'.out; omega
 cases y0 : x.key.toList.isEmpty with
 | true =>
  go_wp2_with fail
  go_ret
  exact PostR.no (hbw2.alloc hbw2.size _)
 | false =>
 by_cases hxs : x.key.size ≤ 100 ∧ x.str.size ≤ 100
 · (
 obtain ⟨y1, y2⟩ := hxs
 go_wp2_with fail
 obtain ⟨W2, hW2⟩ : ∃ W2, W2 = wr.alloc (.cells #[.string x.key, .string x.str] 46) := ⟨_, rfl⟩
 rw [← hW2]
 have hs2 : W2.heap.size = wr.heap.size + 1 := by rw [hW2]; simp
 have hb3' : Below wr.heap.size wr W2 := ba hW2
 have g0 : W2.cell? ⟨wr.heap.size, 0, none⟩ = some (.string x.key) := by rw [hW2]; simp [go_sem]
 have hs2' := Lib.hid hs2
 have hszb : wr.heap.size < W2.heap.size := by omega
 clear hW2 hs2
 obtain ⟨wp, rfl⟩ : ∃ wp : World, wp = wr := ⟨_, rfl⟩
 go_loopw [101] (fun i wr => ∃ q : Nat, q ≤ j ∧ i = .int .i64 q ∧ Below W2.heap.size W2 wr ∧ (∀ (j1 : Nat) (b : KV), j1 < q → d.attrs[j1]? = some b → x.key ≠ b.key)) (fun i _ => j - (intOf i).toNat)
 case atStart => exact ⟨0, Nat.zero_le _, rfl, Below.refl _ _, fun q x hq => by omega⟩
 case round => (
 obtain ⟨q, hq, rfl, hb4, hap4⟩ := hrel
 have hap4' := Lib.hid hap4
 clear hap4
 have hbs4 := hb4.size
 obtain ⟨hc4, hf4⟩ := bcell hb4
 have hbw4 : Below w.heap.size w wr := below_then (below_then hbw2 hbw2.size hb3') (by have := hbw2.size; omega) hb4
 by_cases hql : q < j
 · (
 obtain ⟨b3, o3, r3, hE, hbB3, hr3, hl3, hcc3⟩ := (hdA.out.below hbw4).at_ (show q < an by omega)
 rw [List.getElem?_map, Option.map_eq_some_iff] at hr3
 obtain ⟨y, hy3, rfl⟩ := hr3
 injection hE with hE
 injection hE with hE1 hE2
 subst hE1
 subst hE2
 have q2 := hcc3 0 _ rfl
 have q3 := hcc3 1 _ rfl
 rw [Nat.add_zero] at q2
 have hY3 := Lib.hid hy3
 have hlt5 : wp.heap.size < wr.heap.size := by omega
 clear hcc3 hy3 hl3
 cases hke : (x.key.toList == y.key.toList) with
 | true =>
  go_wp2_with fail
  go_ret
  exact PostR.no (hbw4.alloc hbw4.size _)
 | false =>
  have hke' := Lib.hid hke
  go_wp2_with fail
  go_roundw
  case rel => exact ⟨q + 1, by omega, by go_num, hb4.alloc hb4.size _, keys_step hap4'.out hY3.out hke'.out⟩
  case measure => simp [intOf]; omega)
 · (
 go_wp2_with fail
 go_roundw
 case rel => exact ⟨j + 1, by omega, by go_num, below_then (below_then hb2 hb2.size (below_then (Below.refl _ _) (Nat.le_refl _) hb3')) (by omega) hb4, sizes_step hz2.out hX2.out ⟨y1, y2⟩, apart_step ha2'.out hX2.out (fun j1 b hj1 hb => hap4'.out j1 b (by omega) hb)⟩
 case measure => simp [intOf]; omega)))
 · (
 go_wp2_with fail
 all_goals
  go_ret
  exact PostR.no (hbw2.alloc hbw2.size _)))
 · (
 have hsz2' : Hid (∀ x ∈ d.attrs, x.key.size ≤ 100 ∧ x.str.size ≤ 100) := fun x hx => by
  obtain ⟨q, hq⟩ := List.mem_iff_getElem?.1 hx
  exact hz2.out q x (by have := (List.getElem?_eq_some_iff.1 hq).1; have := hla.out; omega) hq
 have hap2' : Hid (∀ (i j : Nat) (a b : KV), j < i → d.attrs[i]? = some a → d.attrs[j]? = some b → a.key ≠ b.key) := fun i1 j1 a b hij ha hb => ha2'.out i1 j1 a b hij (by have := (List.getElem?_eq_some_iff.1 ha).1; have := hla.out; omega) ha hb
 have hlt3 : wo.heap.size + 1 < wr.heap.size := by omega
 have hlt4 : w.heap.size < wr.heap.size := by have := hs0'.out; omega
 go_wp2_with fail
 have c1' : wr.cell? ⟨w.heap.size, 1, none⟩ = some (.bool f) := (hb2.cell (p := ⟨w.heap.size, 1, none⟩) (by show w.heap.size < W1.heap.size; have := hs0'.out; omega)).trans ((hb1.cell (p := ⟨w.heap.size, 1, none⟩) (by show w.heap.size < w0.heap.size; have := hs0'.out; omega)).trans c1)
 obtain ⟨w3, rfl⟩ : ∃ w3 : World, w3 = wr := ⟨_, rfl⟩
 clear hz2 ha2'
 go_loop [115] (fun i => ∃ q : Nat, q ≤ bn ∧ i = .int .i64 q ∧ ∀ j x, j < q → d.bounds[j]? = some x → isNum x = true) (fun i => bn - (intOf i).toNat)
 case atStart => exact ⟨0, Nat.zero_le _, rfl, fun j x hj => by omega⟩
 case round => (
 obtain ⟨q, hq, rfl, hnum⟩ := hrel
 have hnum' := Lib.hid hnum
 clear hnum
 by_cases hql : q < bn
 · (
 obtain ⟨b4, o4, x, rfl, hbB4, hx4, ca⟩ := (hdB.out.below hbw2).num hql
 have hX4 := Lib.hid hx4
 clear hx4
 cases hp : isNum x with
 | true =>
  have hp' := Lib.hid hp
  go_wp2_with (go_at_call 18; refine (c18' _ _).mono ?_; rintro e w' ⟨rfl, rfl⟩)
  go_round
  case rel => exact ⟨q + 1, by omega, by go_num, nums_step hnum'.out hX4.out hp'.out⟩
  case measure => simp [intOf]; omega
 | false =>
  go_wp2_with (go_at_call 18; refine (c18' _ _).mono ?_; rintro e w' ⟨rfl, rfl⟩)
  go_ret
  exact PostR.no hbw2)
 · (
 have hbnd : Hid (∀ x ∈ d.bounds, isNum x = true) := fun x hx => by
  obtain ⟨q1, hq1⟩ := List.mem_iff_getElem?.1 hx
  exact hnum'.out q1 x (by have := (List.getElem?_eq_some_iff.1 hq1).1; have := hlb.out; omega) hq1
 have hend : Hid ((f = true → isNum d.value = true ∧ isNum d.sum = true ∧ isNum d.min = true ∧ isNum d.max = true) → DotRight f d) := fun hn => ⟨by have := hla.out; omega, by have := hlb.out; omega, by have := hlk.out; omega, by have := hlp.out; omega, by have := hln.out; omega, hsz2'.out, hap2'.out, hbnd.out, hn⟩
 clear hnum' hbnd hsz2' hap2'
 cases hf : f with
 | false =>
  subst hf
  go_wp2_with fail
  go_roundw
  case rel => exact ⟨k + 1, by omega, by go_num, below_then (below_then hb hb.size (below_then (Below.refl _ _) (Nat.le_refl _) hbo1)) (by omega) hb2, all_step hALL.out hX.out (hend.out (by simp))⟩
  case measure => simp [intOf]; omega
 | true =>
  subst hf
  cases hv : isNum d.value with
  | false =>
   go_wp2_with (go_at_call 18; refine (c18' _ _).mono ?_; rintro e w' ⟨rfl, rfl⟩)
   go_ret
   exact PostR.no hbw2
  | true =>
  cases hv2 : isNum d.sum with
  | false =>
   go_wp2_with (go_at_call 18; refine (c18' _ _).mono ?_; rintro e w' ⟨rfl, rfl⟩)
   go_ret
   exact PostR.no hbw2
  | true =>
  cases hv3 : isNum d.min with
  | false =>
   go_wp2_with (go_at_call 18; refine (c18' _ _).mono ?_; rintro e w' ⟨rfl, rfl⟩)
   go_ret
   exact PostR.no hbw2
  | true =>
  cases hv4 : isNum d.max with
  | false =>
   go_wp2_with (go_at_call 18; refine (c18' _ _).mono ?_; rintro e w' ⟨rfl, rfl⟩)
   go_ret
   exact PostR.no hbw2
  | true =>
   have hfin : Hid (isNum d.value = true ∧ isNum d.sum = true ∧ isNum d.min = true ∧ isNum d.max = true) := ⟨hv, hv2, hv3, hv4⟩
   go_wp2_with (go_at_call 18; refine (c18' _ _).mono ?_; rintro e w' ⟨rfl, rfl⟩)
   go_roundw
   case rel => exact ⟨k + 1, by omega, by go_num, below_then (below_then hb hb.size (below_then (Below.refl _ _) (Nat.le_refl _) hbo1)) (by omega) hb2, all_step hALL.out hX.out (hend.out fun _ => hfin.out)⟩
   case measure => simp [intOf]; omega)))))
 · (
 go_wp2_with (first | ((with_reducible refine arm_load hc ?_ 18 info42 Tryz.underlying42 ?_ ?_ ?_); rfl; rfl; rfl) | ((with_reducible apply arm_store_new 18 info42); rfl; simp; rfl; rfl; rfl; rfl) | ((with_reducible apply arm_store_new 16 info40); rfl; simp; rfl; rfl; rfl; rfl) | ((with_reducible apply arm_load_topf [] (ptCells d ⟨⟨aA, an, ac⟩, ⟨bA, bn, bc⟩, ⟨kA, kn, kc⟩, ⟨pA, pn, pc⟩, ⟨nA, nn, nc⟩⟩) [.int .i64 d.start, .int .i64 d.time] 0 16 info40 Tryz.underlying40); rfl; rfl; simp; rfl; rfl; rfl; unfold ptCells))
 all_goals
  go_ret
  exact PostR.no ((hbw.alloc hbw.size _).alloc (by have := hbw.size; simp; omega) _)))
 · (
 have hfin : Hid (Right kd f l) := ⟨hkd'.out, by rw [hlen.out]; exact h20, fun x hx => by
  obtain ⟨q, hq⟩ := List.mem_iff_getElem?.1 hx
  exact hall q x (by have := (List.getElem?_eq_some_iff.1 hq).1; have := hlen.out; omega) hq⟩
 clear hall
 go_wp2_with fail
 go_ret
 exact PostR.yes (hB0.trans (hb.mono (by rw [hs0'.out]; omega))) hfin.out)))
theorem c7 (kd : Int) (f dl m : Bool) (A : Option Addr) (n c : Nat) (l : List (Dot × Sl5)) (w : World) (h : DotsR w w.heap.size A n c l) :
 Calls Tryz.prog 7 #[.agg #[.int .u8 kd, .bool f, .bool dl, .bool m, .slice A n c]] w (PostR (Right kd f l) w) := by
 by_cases hok : (kd = 0 ∨ kd = 2 ∨ kd = 4 ∨ kd = 5) ∧ n ≤ 20
 · exact c7_yes kd f dl m A n c l w h hok.1 hok.2
 · exact c7_no kd f dl m A n c w (by have := h.rd.cap; have := h.rd.top; omega) hok _
end Go.Proofs.YtlpddogcnpokfaaGreatDoor
