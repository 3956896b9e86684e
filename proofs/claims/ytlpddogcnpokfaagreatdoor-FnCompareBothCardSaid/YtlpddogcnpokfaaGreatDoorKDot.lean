/- Contracts of functions of the program, for the comparison of aggregations (part KDot). -/
import Derived.Test.YtlpddogcnpokfaaGreatDoorKA2
import Derived.Test.YtlpddogcnpokfaaGreatDoorKA3
import Derived.Deep.RegionHeld3
set_option linter.all false
namespace Go.Proofs.YtlpddogcnpokfaaGreatDoor
open Go.RowKit
open Go.Sort
def attrsEq (x y : Dot) : Bool := listEq eq2 (sortK x.attrs) (sortK y.attrs)
def extEq (fl : Bool) (x y : Dot) : Bool := dExt fl x.hasMin y.hasMin x.min y.min && dExt fl x.hasMax y.hasMax x.max y.max
def dotVal (kd : Int) (fl : Bool) (x y : Dot) : Bool :=
 if kd = 4 then x.count == y.count && (listEq (dVal true) x.bounds y.bounds && (listEq (fun a b : Int => a == b) x.buckets y.buckets && (extEq fl x y && dVal fl x.sum y.sum)))
 else if kd = 5 then x.count == y.count && (extEq fl x y && (dVal fl x.sum y.sum && (x.scale == y.scale && (x.zero == y.zero && (x.posOff == y.posOff && (listEq (fun a b : Int => a == b) x.pos y.pos && (x.negOff == y.negOff && listEq (fun a b : Int => a == b) x.neg y.neg)))))))
 else dVal fl x.value y.value
def timesEq (it : Bool) (x y : Dot) : Bool := it || (x.start == y.start && x.time == y.time)
theorem c20b (A1 A2 : Option Addr) (n1 n2 k1 k2 : Nat) (xs ys : List KV) (w : World) (h1 : Rd w w.heap.size 2 A1 n1 k1 (xs.map enc2)) (h2 : Rd w w.heap.size 2 A2 n2 k2 (ys.map enc2)) (b : Bool) (hb : listEq eq2 xs ys = b) :
 Calls Tryz.prog 20 #[.slice A1 n1 k1, .slice A2 n2 k2] w fun e w' => e = .returned (.bool b) ∧ Below w.heap.size w w' := by
 subst hb
 exact c20 A1 A2 n1 n2 k1 k2 xs ys w h1 h2
set_option maxRecDepth 100000 in
set_option maxHeartbeats 20000000 in
theorem c26 (kd : Int) (fl it iv : Bool) (x y : Dot) (s t : Sl5) (w : World) (hx : DotR w w.heap.size x s) (hy : DotR w w.heap.size y t) (hx8 : x.attrs.length ≤ 8) (hy8 : y.attrs.length ≤ 8) :
 Calls Tryz.prog 26 #[.int .u8 kd, .bool fl, .agg (dotCells x s).toArray, .agg (dotCells y t).toArray, .bool it, .bool iv] w fun e w' => e = .returned (.bool (attrsEq x y && timesEq it x y && (iv || dotVal kd fl x y))) ∧ Below w.heap.size w w' := by
 obtain ⟨⟨aA, an, ac⟩, ⟨bA, bn, bc⟩, ⟨kA, kn, kc⟩, ⟨pA, pn, pc⟩, ⟨nA, nn, nc⟩⟩ := s
 obtain ⟨⟨aA', an', ac'⟩, ⟨bA', bn', bc'⟩, ⟨kA', kn', kc'⟩, ⟨pA', pn', pc'⟩, ⟨nA', nn', nc'⟩⟩ := t
 obtain ⟨W0, hW0⟩ : ∃ W0, W0 = (w.alloc (.cells (dotCells x ⟨⟨aA, an, ac⟩, ⟨bA, bn, bc⟩, ⟨kA, kn, kc⟩, ⟨pA, pn, pc⟩, ⟨nA, nn, nc⟩⟩).toArray 42)).alloc (.cells (dotCells y ⟨⟨aA', an', ac'⟩, ⟨bA', bn', bc'⟩, ⟨kA', kn', kc'⟩, ⟨pA', pn', pc'⟩, ⟨nA', nn', nc'⟩⟩).toArray 42) := ⟨_, rfl⟩
 have hx0 : W0.heap[w.heap.size]? = some (.cells (dotCells x ⟨⟨aA, an, ac⟩, ⟨bA, bn, bc⟩, ⟨kA, kn, kc⟩, ⟨pA, pn, pc⟩, ⟨nA, nn, nc⟩⟩).toArray 42 (0, 0)) := by
  rw [hW0, Below.heap_alloc _ _ _ (by simp)]
  exact heap_alloc_new w _
 have hy0 : W0.heap[w.heap.size + 1]? = some (.cells (dotCells y ⟨⟨aA', an', ac'⟩, ⟨bA', bn', bc'⟩, ⟨kA', kn', kc'⟩, ⟨pA', pn', pc'⟩, ⟨nA', nn', nc'⟩⟩).toArray 42 (0, 0)) := by
  rw [hW0]
  have := heap_alloc_new (w.alloc (.cells (dotCells x ⟨⟨aA, an, ac⟩, ⟨bA, bn, bc⟩, ⟨kA, kn, kc⟩, ⟨pA, pn, pc⟩, ⟨nA, nn, nc⟩⟩).toArray 42)) (.cells (dotCells y ⟨⟨aA', an', ac'⟩, ⟨bA', bn', bc'⟩, ⟨kA', kn', kc'⟩, ⟨pA', pn', pc'⟩, ⟨nA', nn', nc'⟩⟩).toArray 42)
  simpa using this
 have hsz : W0.heap.size = w.heap.size + 2 := by rw [hW0]; simp
 have hb0 : Below w.heap.size w W0 := by rw [hW0]; exact ((Below.refl _ _).alloc (Nat.le_refl _) _).alloc (by simp) _
 have hW0' := Lib.hid hW0
 clear hW0
 unfold dotCells
 go_enter Tryz.func26, Tryz.ntmps26
 go_upto_region 1 with fail
 have hW := hW0'.out
 unfold dotCells at hW
 rw [← hW]
 clear hW
 have a0 := blk_cell hx0 0 (.slice aA an ac) rfl
 have a1 := blk_cell hx0 16 (.int .i64 x.start) rfl
 have a2 := blk_cell hx0 17 (.int .i64 x.time) rfl
 have b0 := blk_cell hy0 0 (.slice aA' an' ac') rfl
 have b1 := blk_cell hy0 16 (.int .i64 y.start) rfl
 have b2 := blk_cell hy0 17 (.int .i64 y.time) rfl
 have hRx : Rd W0 W0.heap.size 2 aA an ac (x.attrs.map enc2) := (hx.a.below hb0).more hb0.size
 have hRy : Rd W0 W0.heap.size 2 aA' an' ac' (y.attrs.map enc2) := (hy.a.below hb0).more hb0.size
 have l1 : an ≤ 12 := by have := hRx.numlen; omega
 have l2 : an' ≤ 12 := by have := hRy.numlen; omega
 have C1 := Lib.hid (c19 aA an ac x.attrs W0.drew hRx.drew l1)
 have HRy := Lib.hid hRy
 have HX0 := Lib.hid hx0
 have HY0 := Lib.hid hy0
 have HSZ := Lib.hid hsz
 have hx' := Lib.hid hx
 have hy' := Lib.hid hy
 clear hx0 hy0 hsz hRx hRy hx hy
 have a0d : W0.drew.cell? ⟨w.heap.size, 0, none⟩ = some (.slice aA an ac) := a0
 have b0d : W0.drew.cell? ⟨w.heap.size + 1, 0, none⟩ = some (.slice aA' an' ac') := b0
 go_cut [43] (fun s43 wx => s43 = .bool (!(attrsEq x y && timesEq it x y)) ∧ Below W0.heap.size W0 wx)
 case first => (
 cases hq : attrsEq x y with
 | false =>
  have hq' : Hid (listEq eq2 (sortK x.attrs) (sortK y.attrs) = false) := hq
  refine wp_region_held_drew (S := fun w' => w'.cell? ⟨w.heap.size, 0, none⟩ = some (.slice aA an ac) ∧ w'.cell? ⟨w.heap.size + 1, 0, none⟩ = some (.slice aA' an' ac') ∧ w'.cell? ⟨w.heap.size, 16, none⟩ = some (.int .i64 x.start) ∧ w'.cell? ⟨w.heap.size, 17, none⟩ = some (.int .i64 x.time) ∧ w'.cell? ⟨w.heap.size + 1, 16, none⟩ = some (.int .i64 y.start) ∧ w'.cell? ⟨w.heap.size + 1, 17, none⟩ = some (.int .i64 y.time)) (by kernel_rfl) ⟨a0, b0, a1, a2, b1, b2⟩ (fun hHeld => ?_)
  refine tk 0 16 (v := ?_) (a' := ?_) rfl rfl ?_ ?_ rfl ?_
  rotate_left 2
  · intro w hSw; (try dsimp only at hSw); go_simp <;> with_reducible rfl
  · simp only [sI, s0, sS]; exact rfl
  refine tk 1 17 (v := ?_) (a' := ?_) rfl rfl ?_ ?_ rfl ?_
  rotate_left 2
  · intro w hSw; (try dsimp only at hSw); go_simp <;> with_reducible rfl
  · simp only [sI, s0, sS]; exact rfl
  refine tk 2 18 (v := ?_) (a' := ?_) rfl rfl ?_ ?_ rfl ?_
  rotate_left 2
  · intro w hSw; (try dsimp only at hSw); go_simp <;> with_reducible rfl
  · simp only [sI, s0, sS]; exact rfl
  refine tk 4 20 (v := ?_) (a' := ?_) rfl rfl ?_ ?_ rfl ?_
  rotate_left 2
  · intro w hSw; (try dsimp only at hSw); go_simp <;> with_reducible rfl
  · simp only [sI, s0, sS]; exact rfl
  refine tk 5 21 (v := ?_) (a' := ?_) rfl rfl ?_ ?_ rfl ?_
  rotate_left 2
  · intro w hSw; (try dsimp only at hSw); go_simp <;> with_reducible rfl
  · simp only [sI, s0, sS]; exact rfl
  refine tk 6 22 (v := ?_) (a' := ?_) rfl rfl ?_ ?_ rfl ?_
  rotate_left 2
  · intro w hSw; (try dsimp only at hSw); go_simp <;> with_reducible rfl
  · simp only [sI, s0, sS]; exact rfl
  refine wpAnyH_ready (rs := [3]) (by kernel_rfl) (by simp) ?_
  refine ar1 rfl (fun K hK => ?_)
  go_simp
  refine C1.out.mono ?_; rintro e w1 ⟨A1, c1, rfl, hr1, hb1⟩; try dsimp only
  refine hK.out _ _ ?_ (fun hHeld => ?_)
  · exact ⟨cellk hHeld.1 hb1, cellk hHeld.2.1 hb1, cellk hHeld.2.2.1 hb1, cellk hHeld.2.2.2.1 hb1, cellk hHeld.2.2.2.2.1 hb1, cellk hHeld.2.2.2.2.2 hb1⟩
  clear hK K
  try simp only [Act.put, sI, s0, sS]
  refine wpAnyH_ready (rs := [7]) (by kernel_rfl) (by simp) ?_
  refine ar1 rfl (fun K hK => ?_)
  go_simp
  refine (c19 aA' an' ac' y.attrs _ ((HRy.out.drew.below hb1).more hb1.size) l2).mono ?_; rintro e w2 ⟨A2, c2, rfl, hr2, hb2⟩; try dsimp only
  refine hK.out _ _ ?_ (fun hHeld => ?_)
  · exact ⟨cellk hHeld.1 hb2, cellk hHeld.2.1 hb2, cellk hHeld.2.2.1 hb2, cellk hHeld.2.2.2.1 hb2, cellk hHeld.2.2.2.2.1 hb2, cellk hHeld.2.2.2.2.2 hb2⟩
  clear hK K
  try simp only [Act.put, sI, s0, sS]
  refine wpAnyH_ready (rs := [8]) (by kernel_rfl) (by simp) ?_
  refine ar1 rfl (fun K hK => ?_)
  go_simp
  refine (c20b _ _ _ _ _ _ _ _ _ ((hr1.below hb2).more hb2.size) hr2 false hq'.out).mono ?_; rintro e w3 ⟨rfl, hb3⟩; try dsimp only
  refine hK.out _ _ ?_ (fun hHeld => ?_)
  · exact ⟨cellk hHeld.1 hb3, cellk hHeld.2.1 hb3, cellk hHeld.2.2.1 hb3, cellk hHeld.2.2.2.1 hb3, cellk hHeld.2.2.2.2.1 hb3, cellk hHeld.2.2.2.2.2 hb3⟩
  clear hK K
  try simp only [Act.put, sI, s0, sS]
  refine tk 9 25 (v := ?_) (a' := ?_) rfl rfl ?_ ?_ rfl ?_
  rotate_left 2
  · intro w hSw; (try dsimp only at hSw); go_simp <;> with_reducible rfl
  · simp only [sI, s0, sS]; exact rfl
  refine tk 10 26 (v := ?_) (a' := ?_) rfl rfl ?_ ?_ rfl ?_
  rotate_left 2
  · intro w hSw; (try dsimp only at hSw); go_simp <;> with_reducible rfl
  · simp only [sI, s0, sS]; exact rfl
  refine wpAnyH_skipped [(11, 27), (12, 28), (13, 29), (14, 30), (15, 31), (16, 32), (17, 33), (18, 34), (19, 35), (20, 36), (21, 37), (22, 38), (23, 39), (24, 40), (25, 41), (26, 42)] 1 (by kernel_rfl) (by kernel_rfl) (fun _ _ _ _ _ h => h) (by kernel_rfl) (by assumption) rfl (by simp only [skipsAct, List.foldl_cons, List.foldl_nil, sI, s0, sS]; rfl) ?_
  try simp only [Act.put, sI, s0, sS]
  refine tk 27 43 (v := ?_) (a' := ?_) rfl rfl ?_ ?_ rfl ?_
  rotate_left 2
  · intro w hSw; (try dsimp only at hSw); go_simp <;> with_reducible rfl
  · simp only [sI, s0, sS]; exact rfl
  refine wpAnyH_done (by kernel_rfl) ?_ _
  go_wp2_with fail
  go_meet
  exact ⟨by simp [hq], below_then (below_drew (Below.refl _ _)) (Nat.le_refl _) (below_then (below_then hb1 hb1.size hb2) (below_then hb1 hb1.size hb2).size hb3)⟩
 | true =>
  have hq' : Hid (listEq eq2 (sortK x.attrs) (sortK y.attrs) = true) := hq
  cases it with
  | true =>
   refine wp_region_held_drew (S := fun w' => w'.cell? ⟨w.heap.size, 0, none⟩ = some (.slice aA an ac) ∧ w'.cell? ⟨w.heap.size + 1, 0, none⟩ = some (.slice aA' an' ac') ∧ w'.cell? ⟨w.heap.size, 16, none⟩ = some (.int .i64 x.start) ∧ w'.cell? ⟨w.heap.size, 17, none⟩ = some (.int .i64 x.time) ∧ w'.cell? ⟨w.heap.size + 1, 16, none⟩ = some (.int .i64 y.start) ∧ w'.cell? ⟨w.heap.size + 1, 17, none⟩ = some (.int .i64 y.time)) (by kernel_rfl) ⟨a0, b0, a1, a2, b1, b2⟩ (fun hHeld => ?_)
   refine tk 0 16 (v := ?_) (a' := ?_) rfl rfl ?_ ?_ rfl ?_
   rotate_left 2
   · intro w hSw; (try dsimp only at hSw); go_simp <;> with_reducible rfl
   · simp only [sI, s0, sS]; exact rfl
   refine tk 1 17 (v := ?_) (a' := ?_) rfl rfl ?_ ?_ rfl ?_
   rotate_left 2
   · intro w hSw; (try dsimp only at hSw); go_simp <;> with_reducible rfl
   · simp only [sI, s0, sS]; exact rfl
   refine tk 2 18 (v := ?_) (a' := ?_) rfl rfl ?_ ?_ rfl ?_
   rotate_left 2
   · intro w hSw; (try dsimp only at hSw); go_simp <;> with_reducible rfl
   · simp only [sI, s0, sS]; exact rfl
   refine tk 4 20 (v := ?_) (a' := ?_) rfl rfl ?_ ?_ rfl ?_
   rotate_left 2
   · intro w hSw; (try dsimp only at hSw); go_simp <;> with_reducible rfl
   · simp only [sI, s0, sS]; exact rfl
   refine tk 5 21 (v := ?_) (a' := ?_) rfl rfl ?_ ?_ rfl ?_
   rotate_left 2
   · intro w hSw; (try dsimp only at hSw); go_simp <;> with_reducible rfl
   · simp only [sI, s0, sS]; exact rfl
   refine tk 6 22 (v := ?_) (a' := ?_) rfl rfl ?_ ?_ rfl ?_
   rotate_left 2
   · intro w hSw; (try dsimp only at hSw); go_simp <;> with_reducible rfl
   · simp only [sI, s0, sS]; exact rfl
   refine wpAnyH_ready (rs := [3]) (by kernel_rfl) (by simp) ?_
   refine ar1 rfl (fun K hK => ?_)
   go_simp
   refine C1.out.mono ?_; rintro e w1 ⟨A1, c1, rfl, hr1, hb1⟩; try dsimp only
   refine hK.out _ _ ?_ (fun hHeld => ?_)
   · exact ⟨cellk hHeld.1 hb1, cellk hHeld.2.1 hb1, cellk hHeld.2.2.1 hb1, cellk hHeld.2.2.2.1 hb1, cellk hHeld.2.2.2.2.1 hb1, cellk hHeld.2.2.2.2.2 hb1⟩
   clear hK K
   try simp only [Act.put, sI, s0, sS]
   refine wpAnyH_ready (rs := [7]) (by kernel_rfl) (by simp) ?_
   refine ar1 rfl (fun K hK => ?_)
   go_simp
   refine (c19 aA' an' ac' y.attrs _ ((HRy.out.drew.below hb1).more hb1.size) l2).mono ?_; rintro e w2 ⟨A2, c2, rfl, hr2, hb2⟩; try dsimp only
   refine hK.out _ _ ?_ (fun hHeld => ?_)
   · exact ⟨cellk hHeld.1 hb2, cellk hHeld.2.1 hb2, cellk hHeld.2.2.1 hb2, cellk hHeld.2.2.2.1 hb2, cellk hHeld.2.2.2.2.1 hb2, cellk hHeld.2.2.2.2.2 hb2⟩
   clear hK K
   try simp only [Act.put, sI, s0, sS]
   refine wpAnyH_ready (rs := [8]) (by kernel_rfl) (by simp) ?_
   refine ar1 rfl (fun K hK => ?_)
   go_simp
   refine (c20b _ _ _ _ _ _ _ _ _ ((hr1.below hb2).more hb2.size) hr2 true hq'.out).mono ?_; rintro e w3 ⟨rfl, hb3⟩; try dsimp only
   refine hK.out _ _ ?_ (fun hHeld => ?_)
   · exact ⟨cellk hHeld.1 hb3, cellk hHeld.2.1 hb3, cellk hHeld.2.2.1 hb3, cellk hHeld.2.2.2.1 hb3, cellk hHeld.2.2.2.2.1 hb3, cellk hHeld.2.2.2.2.2 hb3⟩
   clear hK K
   try simp only [Act.put, sI, s0, sS]
   refine tk 9 25 (v := ?_) (a' := ?_) rfl rfl ?_ ?_ rfl ?_
   rotate_left 2
   · intro w hSw; (try dsimp only at hSw); go_simp <;> with_reducible rfl
   · simp only [sI, s0, sS]; exact rfl
   refine tk 10 26 (v := ?_) (a' := ?_) rfl rfl ?_ ?_ rfl ?_
   rotate_left 2
   · intro w hSw; (try dsimp only at hSw); go_simp <;> with_reducible rfl
   · simp only [sI, s0, sS]; exact rfl
   refine tk 11 27 (v := ?_) (a' := ?_) rfl rfl ?_ ?_ rfl ?_
   rotate_left 2
   · intro w hSw; (try dsimp only at hSw); go_simp <;> with_reducible rfl
   · simp only [sI, s0, sS]; exact rfl
   refine tk 12 28 (v := ?_) (a' := ?_) rfl rfl ?_ ?_ rfl ?_
   rotate_left 2
   · intro w hSw; (try dsimp only at hSw); go_simp <;> with_reducible rfl
   · simp only [sI, s0, sS]; exact rfl
   refine tk 13 29 (v := ?_) (a' := ?_) rfl rfl ?_ ?_ rfl ?_
   rotate_left 2
   · intro w hSw; (try dsimp only at hSw); go_simp <;> with_reducible rfl
   · simp only [sI, s0, sS]; exact rfl
   refine wpAnyH_skipped [(14, 30), (15, 31), (16, 32), (17, 33), (18, 34), (19, 35), (20, 36), (21, 37), (22, 38), (23, 39), (24, 40), (25, 41)] 2 (by kernel_rfl) (by kernel_rfl) (fun _ _ _ _ _ h => h) (by kernel_rfl) (by assumption) rfl (by simp only [skipsAct, List.foldl_cons, List.foldl_nil, sI, s0, sS]; rfl) ?_
   try simp only [Act.put, sI, s0, sS]
   refine tk 26 42 (v := ?_) (a' := ?_) rfl rfl ?_ ?_ rfl ?_
   rotate_left 2
   · intro w hSw; (try dsimp only at hSw); go_simp <;> with_reducible rfl
   · simp only [sI, s0, sS]; exact rfl
   refine tk 27 43 (v := ?_) (a' := ?_) rfl rfl ?_ ?_ rfl ?_
   rotate_left 2
   · intro w hSw; (try dsimp only at hSw); go_simp <;> with_reducible rfl
   · simp only [sI, s0, sS]; exact rfl
   refine wpAnyH_done (by kernel_rfl) ?_ _
   go_wp2_with fail
   go_meet
   exact ⟨by simp [hq, timesEq], below_then (below_drew (Below.refl _ _)) (Nat.le_refl _) (below_then (below_then hb1 hb1.size hb2) (below_then hb1 hb1.size hb2).size hb3)⟩
  | false =>
   rcases Classical.em (x.start = y.start) with h0 | h0
   · (
   have hst := Lib.hid h0; clear h0
   rcases Classical.em (x.time = y.time) with h0 | h0
   · (
   have htm := Lib.hid h0; clear h0
   refine wp_region_held_drew (S := fun w' => w'.cell? ⟨w.heap.size, 0, none⟩ = some (.slice aA an ac) ∧ w'.cell? ⟨w.heap.size + 1, 0, none⟩ = some (.slice aA' an' ac') ∧ w'.cell? ⟨w.heap.size, 16, none⟩ = some (.int .i64 x.start) ∧ w'.cell? ⟨w.heap.size, 17, none⟩ = some (.int .i64 x.time) ∧ w'.cell? ⟨w.heap.size + 1, 16, none⟩ = some (.int .i64 y.start) ∧ w'.cell? ⟨w.heap.size + 1, 17, none⟩ = some (.int .i64 y.time)) (by kernel_rfl) ⟨a0, b0, a1, a2, b1, b2⟩ (fun hHeld => ?_)
   refine tk 0 16 (v := ?_) (a' := ?_) rfl rfl ?_ ?_ rfl ?_
   rotate_left 2
   · intro w hSw; (try dsimp only at hSw); go_simp <;> with_reducible rfl
   · simp only [sI, s0, sS]; exact rfl
   refine tk 1 17 (v := ?_) (a' := ?_) rfl rfl ?_ ?_ rfl ?_
   rotate_left 2
   · intro w hSw; (try dsimp only at hSw); go_simp <;> with_reducible rfl
   · simp only [sI, s0, sS]; exact rfl
   refine tk 2 18 (v := ?_) (a' := ?_) rfl rfl ?_ ?_ rfl ?_
   rotate_left 2
   · intro w hSw; (try dsimp only at hSw); go_simp <;> with_reducible rfl
   · simp only [sI, s0, sS]; exact rfl
   refine tk 4 20 (v := ?_) (a' := ?_) rfl rfl ?_ ?_ rfl ?_
   rotate_left 2
   · intro w hSw; (try dsimp only at hSw); go_simp <;> with_reducible rfl
   · simp only [sI, s0, sS]; exact rfl
   refine tk 5 21 (v := ?_) (a' := ?_) rfl rfl ?_ ?_ rfl ?_
   rotate_left 2
   · intro w hSw; (try dsimp only at hSw); go_simp <;> with_reducible rfl
   · simp only [sI, s0, sS]; exact rfl
   refine tk 6 22 (v := ?_) (a' := ?_) rfl rfl ?_ ?_ rfl ?_
   rotate_left 2
   · intro w hSw; (try dsimp only at hSw); go_simp <;> with_reducible rfl
   · simp only [sI, s0, sS]; exact rfl
   refine wpAnyH_ready (rs := [3]) (by kernel_rfl) (by simp) ?_
   refine ar1 rfl (fun K hK => ?_)
   go_simp
   refine C1.out.mono ?_; rintro e w1 ⟨A1, c1, rfl, hr1, hb1⟩; try dsimp only
   refine hK.out _ _ ?_ (fun hHeld => ?_)
   · exact ⟨cellk hHeld.1 hb1, cellk hHeld.2.1 hb1, cellk hHeld.2.2.1 hb1, cellk hHeld.2.2.2.1 hb1, cellk hHeld.2.2.2.2.1 hb1, cellk hHeld.2.2.2.2.2 hb1⟩
   clear hK K
   try simp only [Act.put, sI, s0, sS]
   refine wpAnyH_ready (rs := [7]) (by kernel_rfl) (by simp) ?_
   refine ar1 rfl (fun K hK => ?_)
   go_simp
   refine (c19 aA' an' ac' y.attrs _ ((HRy.out.drew.below hb1).more hb1.size) l2).mono ?_; rintro e w2 ⟨A2, c2, rfl, hr2, hb2⟩; try dsimp only
   refine hK.out _ _ ?_ (fun hHeld => ?_)
   · exact ⟨cellk hHeld.1 hb2, cellk hHeld.2.1 hb2, cellk hHeld.2.2.1 hb2, cellk hHeld.2.2.2.1 hb2, cellk hHeld.2.2.2.2.1 hb2, cellk hHeld.2.2.2.2.2 hb2⟩
   clear hK K
   try simp only [Act.put, sI, s0, sS]
   refine wpAnyH_ready (rs := [8]) (by kernel_rfl) (by simp) ?_
   refine ar1 rfl (fun K hK => ?_)
   go_simp
   refine (c20b _ _ _ _ _ _ _ _ _ ((hr1.below hb2).more hb2.size) hr2 true hq'.out).mono ?_; rintro e w3 ⟨rfl, hb3⟩; try dsimp only
   refine hK.out _ _ ?_ (fun hHeld => ?_)
   · exact ⟨cellk hHeld.1 hb3, cellk hHeld.2.1 hb3, cellk hHeld.2.2.1 hb3, cellk hHeld.2.2.2.1 hb3, cellk hHeld.2.2.2.2.1 hb3, cellk hHeld.2.2.2.2.2 hb3⟩
   clear hK K
   try simp only [Act.put, sI, s0, sS]
   refine tk 9 25 (v := ?_) (a' := ?_) rfl rfl ?_ ?_ rfl ?_
   rotate_left 2
   · intro w hSw; (try dsimp only at hSw); go_simp <;> with_reducible rfl
   · simp only [sI, s0, sS]; exact rfl
   refine tk 10 26 (v := ?_) (a' := ?_) rfl rfl ?_ ?_ rfl ?_
   rotate_left 2
   · intro w hSw; (try dsimp only at hSw); go_simp <;> with_reducible rfl
   · simp only [sI, s0, sS]; exact rfl
   refine tk 11 27 (v := ?_) (a' := ?_) rfl rfl ?_ ?_ rfl ?_
   rotate_left 2
   · intro w hSw; (try dsimp only at hSw); go_simp <;> with_reducible rfl
   · simp only [sI, s0, sS]; exact rfl
   refine tk 12 28 (v := ?_) (a' := ?_) rfl rfl ?_ ?_ rfl ?_
   rotate_left 2
   · intro w hSw; (try dsimp only at hSw); go_simp <;> with_reducible rfl
   · simp only [sI, s0, sS]; exact rfl
   refine tk 13 29 (v := ?_) (a' := ?_) rfl rfl ?_ ?_ rfl ?_
   rotate_left 2
   · intro w hSw; (try dsimp only at hSw); go_simp <;> with_reducible rfl
   · simp only [sI, s0, sS]; exact rfl
   refine tk 14 30 (v := ?_) (a' := ?_) rfl rfl ?_ ?_ rfl ?_
   rotate_left 2
   · intro w hSw; (try dsimp only at hSw); go_simp <;> with_reducible rfl
   · simp only [sI, s0, sS]; exact rfl
   refine tk 15 31 (v := ?_) (a' := ?_) rfl rfl ?_ ?_ rfl ?_
   rotate_left 2
   · intro w hSw; (try dsimp only at hSw); go_simp <;> with_reducible rfl
   · simp only [sI, s0, sS]; exact rfl
   refine tk 16 32 (v := ?_) (a' := ?_) rfl rfl ?_ ?_ rfl ?_
   rotate_left 2
   · intro w hSw; (try dsimp only at hSw); go_simp <;> with_reducible rfl
   · simp only [sI, s0, sS]; exact rfl
   refine tk 17 33 (v := ?_) (a' := ?_) rfl rfl ?_ ?_ rfl ?_
   rotate_left 2
   · intro w hSw; (try dsimp only at hSw); go_simp <;> with_reducible rfl
   · simp only [sI, s0, sS]; exact rfl
   refine tk 18 34 (v := (.bool false)) (a' := ?_) rfl rfl ?_ ?_ rfl ?_
   rotate_left 1
   · intro w hSw; (try dsimp only at hSw); go_simp <;> simp [hst.out]
   · simp only [sI, s0, sS]; exact rfl
   refine tk 19 35 (v := ?_) (a' := ?_) rfl rfl ?_ ?_ rfl ?_
   rotate_left 2
   · intro w hSw; (try dsimp only at hSw); go_simp <;> with_reducible rfl
   · simp only [sI, s0, sS]; exact rfl
   refine tk 20 36 (v := ?_) (a' := ?_) rfl rfl ?_ ?_ rfl ?_
   rotate_left 2
   · intro w hSw; (try dsimp only at hSw); go_simp <;> with_reducible rfl
   · simp only [sI, s0, sS]; exact rfl
   refine tk 21 37 (v := ?_) (a' := ?_) rfl rfl ?_ ?_ rfl ?_
   rotate_left 2
   · intro w hSw; (try dsimp only at hSw); go_simp <;> with_reducible rfl
   · simp only [sI, s0, sS]; exact rfl
   refine tk 22 38 (v := ?_) (a' := ?_) rfl rfl ?_ ?_ rfl ?_
   rotate_left 2
   · intro w hSw; (try dsimp only at hSw); go_simp <;> with_reducible rfl
   · simp only [sI, s0, sS]; exact rfl
   refine tk 23 39 (v := ?_) (a' := ?_) rfl rfl ?_ ?_ rfl ?_
   rotate_left 2
   · intro w hSw; (try dsimp only at hSw); go_simp <;> with_reducible rfl
   · simp only [sI, s0, sS]; exact rfl
   refine tk 24 40 (v := (.bool false)) (a' := ?_) rfl rfl ?_ ?_ rfl ?_
   rotate_left 1
   · intro w hSw; (try dsimp only at hSw); go_simp <;> simp [htm.out]
   · simp only [sI, s0, sS]; exact rfl
   refine tk 25 41 (v := ?_) (a' := ?_) rfl rfl ?_ ?_ rfl ?_
   rotate_left 2
   · intro w hSw; (try dsimp only at hSw); go_simp <;> with_reducible rfl
   · simp only [sI, s0, sS]; exact rfl
   refine tk 26 42 (v := ?_) (a' := ?_) rfl rfl ?_ ?_ rfl ?_
   rotate_left 2
   · intro w hSw; (try dsimp only at hSw); go_simp <;> with_reducible rfl
   · simp only [sI, s0, sS]; exact rfl
   refine tk 27 43 (v := ?_) (a' := ?_) rfl rfl ?_ ?_ rfl ?_
   rotate_left 2
   · intro w hSw; (try dsimp only at hSw); go_simp <;> with_reducible rfl
   · simp only [sI, s0, sS]; exact rfl
   refine wpAnyH_done (by kernel_rfl) ?_ _
   go_wp2_with fail
   go_meet
   exact ⟨by simp [hq, timesEq, hst.out, htm.out], below_then (below_drew (Below.refl _ _)) (Nat.le_refl _) (below_then (below_then hb1 hb1.size hb2) (below_then hb1 hb1.size hb2).size hb3)⟩)
   · (
   have htm := Lib.hid h0; clear h0
   refine wp_region_held_drew (S := fun w' => w'.cell? ⟨w.heap.size, 0, none⟩ = some (.slice aA an ac) ∧ w'.cell? ⟨w.heap.size + 1, 0, none⟩ = some (.slice aA' an' ac') ∧ w'.cell? ⟨w.heap.size, 16, none⟩ = some (.int .i64 x.start) ∧ w'.cell? ⟨w.heap.size, 17, none⟩ = some (.int .i64 x.time) ∧ w'.cell? ⟨w.heap.size + 1, 16, none⟩ = some (.int .i64 y.start) ∧ w'.cell? ⟨w.heap.size + 1, 17, none⟩ = some (.int .i64 y.time)) (by kernel_rfl) ⟨a0, b0, a1, a2, b1, b2⟩ (fun hHeld => ?_)
   refine tk 0 16 (v := ?_) (a' := ?_) rfl rfl ?_ ?_ rfl ?_
   rotate_left 2
   · intro w hSw; (try dsimp only at hSw); go_simp <;> with_reducible rfl
   · simp only [sI, s0, sS]; exact rfl
   refine tk 1 17 (v := ?_) (a' := ?_) rfl rfl ?_ ?_ rfl ?_
   rotate_left 2
   · intro w hSw; (try dsimp only at hSw); go_simp <;> with_reducible rfl
   · simp only [sI, s0, sS]; exact rfl
   refine tk 2 18 (v := ?_) (a' := ?_) rfl rfl ?_ ?_ rfl ?_
   rotate_left 2
   · intro w hSw; (try dsimp only at hSw); go_simp <;> with_reducible rfl
   · simp only [sI, s0, sS]; exact rfl
   refine tk 4 20 (v := ?_) (a' := ?_) rfl rfl ?_ ?_ rfl ?_
   rotate_left 2
   · intro w hSw; (try dsimp only at hSw); go_simp <;> with_reducible rfl
   · simp only [sI, s0, sS]; exact rfl
   refine tk 5 21 (v := ?_) (a' := ?_) rfl rfl ?_ ?_ rfl ?_
   rotate_left 2
   · intro w hSw; (try dsimp only at hSw); go_simp <;> with_reducible rfl
   · simp only [sI, s0, sS]; exact rfl
   refine tk 6 22 (v := ?_) (a' := ?_) rfl rfl ?_ ?_ rfl ?_
   rotate_left 2
   · intro w hSw; (try dsimp only at hSw); go_simp <;> with_reducible rfl
   · simp only [sI, s0, sS]; exact rfl
   refine wpAnyH_ready (rs := [3]) (by kernel_rfl) (by simp) ?_
   refine ar1 rfl (fun K hK => ?_)
   go_simp
   refine C1.out.mono ?_; rintro e w1 ⟨A1, c1, rfl, hr1, hb1⟩; try dsimp only
   refine hK.out _ _ ?_ (fun hHeld => ?_)
   · exact ⟨cellk hHeld.1 hb1, cellk hHeld.2.1 hb1, cellk hHeld.2.2.1 hb1, cellk hHeld.2.2.2.1 hb1, cellk hHeld.2.2.2.2.1 hb1, cellk hHeld.2.2.2.2.2 hb1⟩
   clear hK K
   try simp only [Act.put, sI, s0, sS]
   refine wpAnyH_ready (rs := [7]) (by kernel_rfl) (by simp) ?_
   refine ar1 rfl (fun K hK => ?_)
   go_simp
   refine (c19 aA' an' ac' y.attrs _ ((HRy.out.drew.below hb1).more hb1.size) l2).mono ?_; rintro e w2 ⟨A2, c2, rfl, hr2, hb2⟩; try dsimp only
   refine hK.out _ _ ?_ (fun hHeld => ?_)
   · exact ⟨cellk hHeld.1 hb2, cellk hHeld.2.1 hb2, cellk hHeld.2.2.1 hb2, cellk hHeld.2.2.2.1 hb2, cellk hHeld.2.2.2.2.1 hb2, cellk hHeld.2.2.2.2.2 hb2⟩
   clear hK K
   try simp only [Act.put, sI, s0, sS]
   refine wpAnyH_ready (rs := [8]) (by kernel_rfl) (by simp) ?_
   refine ar1 rfl (fun K hK => ?_)
   go_simp
   refine (c20b _ _ _ _ _ _ _ _ _ ((hr1.below hb2).more hb2.size) hr2 true hq'.out).mono ?_; rintro e w3 ⟨rfl, hb3⟩; try dsimp only
   refine hK.out _ _ ?_ (fun hHeld => ?_)
   · exact ⟨cellk hHeld.1 hb3, cellk hHeld.2.1 hb3, cellk hHeld.2.2.1 hb3, cellk hHeld.2.2.2.1 hb3, cellk hHeld.2.2.2.2.1 hb3, cellk hHeld.2.2.2.2.2 hb3⟩
   clear hK K
   try simp only [Act.put, sI, s0, sS]
   refine tk 9 25 (v := ?_) (a' := ?_) rfl rfl ?_ ?_ rfl ?_
   rotate_left 2
   · intro w hSw; (try dsimp only at hSw); go_simp <;> with_reducible rfl
   · simp only [sI, s0, sS]; exact rfl
   refine tk 10 26 (v := ?_) (a' := ?_) rfl rfl ?_ ?_ rfl ?_
   rotate_left 2
   · intro w hSw; (try dsimp only at hSw); go_simp <;> with_reducible rfl
   · simp only [sI, s0, sS]; exact rfl
   refine tk 11 27 (v := ?_) (a' := ?_) rfl rfl ?_ ?_ rfl ?_
   rotate_left 2
   · intro w hSw; (try dsimp only at hSw); go_simp <;> with_reducible rfl
   · simp only [sI, s0, sS]; exact rfl
   refine tk 12 28 (v := ?_) (a' := ?_) rfl rfl ?_ ?_ rfl ?_
   rotate_left 2
   · intro w hSw; (try dsimp only at hSw); go_simp <;> with_reducible rfl
   · simp only [sI, s0, sS]; exact rfl
   refine tk 13 29 (v := ?_) (a' := ?_) rfl rfl ?_ ?_ rfl ?_
   rotate_left 2
   · intro w hSw; (try dsimp only at hSw); go_simp <;> with_reducible rfl
   · simp only [sI, s0, sS]; exact rfl
   refine tk 14 30 (v := ?_) (a' := ?_) rfl rfl ?_ ?_ rfl ?_
   rotate_left 2
   · intro w hSw; (try dsimp only at hSw); go_simp <;> with_reducible rfl
   · simp only [sI, s0, sS]; exact rfl
   refine tk 15 31 (v := ?_) (a' := ?_) rfl rfl ?_ ?_ rfl ?_
   rotate_left 2
   · intro w hSw; (try dsimp only at hSw); go_simp <;> with_reducible rfl
   · simp only [sI, s0, sS]; exact rfl
   refine tk 16 32 (v := ?_) (a' := ?_) rfl rfl ?_ ?_ rfl ?_
   rotate_left 2
   · intro w hSw; (try dsimp only at hSw); go_simp <;> with_reducible rfl
   · simp only [sI, s0, sS]; exact rfl
   refine tk 17 33 (v := ?_) (a' := ?_) rfl rfl ?_ ?_ rfl ?_
   rotate_left 2
   · intro w hSw; (try dsimp only at hSw); go_simp <;> with_reducible rfl
   · simp only [sI, s0, sS]; exact rfl
   refine tk 18 34 (v := (.bool false)) (a' := ?_) rfl rfl ?_ ?_ rfl ?_
   rotate_left 1
   · intro w hSw; (try dsimp only at hSw); go_simp <;> simp [hst.out]
   · simp only [sI, s0, sS]; exact rfl
   refine tk 19 35 (v := ?_) (a' := ?_) rfl rfl ?_ ?_ rfl ?_
   rotate_left 2
   · intro w hSw; (try dsimp only at hSw); go_simp <;> with_reducible rfl
   · simp only [sI, s0, sS]; exact rfl
   refine tk 20 36 (v := ?_) (a' := ?_) rfl rfl ?_ ?_ rfl ?_
   rotate_left 2
   · intro w hSw; (try dsimp only at hSw); go_simp <;> with_reducible rfl
   · simp only [sI, s0, sS]; exact rfl
   refine tk 21 37 (v := ?_) (a' := ?_) rfl rfl ?_ ?_ rfl ?_
   rotate_left 2
   · intro w hSw; (try dsimp only at hSw); go_simp <;> with_reducible rfl
   · simp only [sI, s0, sS]; exact rfl
   refine tk 22 38 (v := ?_) (a' := ?_) rfl rfl ?_ ?_ rfl ?_
   rotate_left 2
   · intro w hSw; (try dsimp only at hSw); go_simp <;> with_reducible rfl
   · simp only [sI, s0, sS]; exact rfl
   refine tk 23 39 (v := ?_) (a' := ?_) rfl rfl ?_ ?_ rfl ?_
   rotate_left 2
   · intro w hSw; (try dsimp only at hSw); go_simp <;> with_reducible rfl
   · simp only [sI, s0, sS]; exact rfl
   refine tk 24 40 (v := (.bool true)) (a' := ?_) rfl rfl ?_ ?_ rfl ?_
   rotate_left 1
   · intro w hSw; (try dsimp only at hSw); go_simp <;> simp [htm.out]
   · simp only [sI, s0, sS]; exact rfl
   refine tk 25 41 (v := ?_) (a' := ?_) rfl rfl ?_ ?_ rfl ?_
   rotate_left 2
   · intro w hSw; (try dsimp only at hSw); go_simp <;> with_reducible rfl
   · simp only [sI, s0, sS]; exact rfl
   refine tk 26 42 (v := ?_) (a' := ?_) rfl rfl ?_ ?_ rfl ?_
   rotate_left 2
   · intro w hSw; (try dsimp only at hSw); go_simp <;> with_reducible rfl
   · simp only [sI, s0, sS]; exact rfl
   refine tk 27 43 (v := ?_) (a' := ?_) rfl rfl ?_ ?_ rfl ?_
   rotate_left 2
   · intro w hSw; (try dsimp only at hSw); go_simp <;> with_reducible rfl
   · simp only [sI, s0, sS]; exact rfl
   refine wpAnyH_done (by kernel_rfl) ?_ _
   go_wp2_with fail
   go_meet
   exact ⟨by simp [hq, timesEq, hst.out, htm.out], below_then (below_drew (Below.refl _ _)) (Nat.le_refl _) (below_then (below_then hb1 hb1.size hb2) (below_then hb1 hb1.size hb2).size hb3)⟩))
   · (
   have hst := Lib.hid h0; clear h0
   refine wp_region_held_drew (S := fun w' => w'.cell? ⟨w.heap.size, 0, none⟩ = some (.slice aA an ac) ∧ w'.cell? ⟨w.heap.size + 1, 0, none⟩ = some (.slice aA' an' ac') ∧ w'.cell? ⟨w.heap.size, 16, none⟩ = some (.int .i64 x.start) ∧ w'.cell? ⟨w.heap.size, 17, none⟩ = some (.int .i64 x.time) ∧ w'.cell? ⟨w.heap.size + 1, 16, none⟩ = some (.int .i64 y.start) ∧ w'.cell? ⟨w.heap.size + 1, 17, none⟩ = some (.int .i64 y.time)) (by kernel_rfl) ⟨a0, b0, a1, a2, b1, b2⟩ (fun hHeld => ?_)
   refine tk 0 16 (v := ?_) (a' := ?_) rfl rfl ?_ ?_ rfl ?_
   rotate_left 2
   · intro w hSw; (try dsimp only at hSw); go_simp <;> with_reducible rfl
   · simp only [sI, s0, sS]; exact rfl
   refine tk 1 17 (v := ?_) (a' := ?_) rfl rfl ?_ ?_ rfl ?_
   rotate_left 2
   · intro w hSw; (try dsimp only at hSw); go_simp <;> with_reducible rfl
   · simp only [sI, s0, sS]; exact rfl
   refine tk 2 18 (v := ?_) (a' := ?_) rfl rfl ?_ ?_ rfl ?_
   rotate_left 2
   · intro w hSw; (try dsimp only at hSw); go_simp <;> with_reducible rfl
   · simp only [sI, s0, sS]; exact rfl
   refine tk 4 20 (v := ?_) (a' := ?_) rfl rfl ?_ ?_ rfl ?_
   rotate_left 2
   · intro w hSw; (try dsimp only at hSw); go_simp <;> with_reducible rfl
   · simp only [sI, s0, sS]; exact rfl
   refine tk 5 21 (v := ?_) (a' := ?_) rfl rfl ?_ ?_ rfl ?_
   rotate_left 2
   · intro w hSw; (try dsimp only at hSw); go_simp <;> with_reducible rfl
   · simp only [sI, s0, sS]; exact rfl
   refine tk 6 22 (v := ?_) (a' := ?_) rfl rfl ?_ ?_ rfl ?_
   rotate_left 2
   · intro w hSw; (try dsimp only at hSw); go_simp <;> with_reducible rfl
   · simp only [sI, s0, sS]; exact rfl
   refine wpAnyH_ready (rs := [3]) (by kernel_rfl) (by simp) ?_
   refine ar1 rfl (fun K hK => ?_)
   go_simp
   refine C1.out.mono ?_; rintro e w1 ⟨A1, c1, rfl, hr1, hb1⟩; try dsimp only
   refine hK.out _ _ ?_ (fun hHeld => ?_)
   · exact ⟨cellk hHeld.1 hb1, cellk hHeld.2.1 hb1, cellk hHeld.2.2.1 hb1, cellk hHeld.2.2.2.1 hb1, cellk hHeld.2.2.2.2.1 hb1, cellk hHeld.2.2.2.2.2 hb1⟩
   clear hK K
   try simp only [Act.put, sI, s0, sS]
   refine wpAnyH_ready (rs := [7]) (by kernel_rfl) (by simp) ?_
   refine ar1 rfl (fun K hK => ?_)
   go_simp
   refine (c19 aA' an' ac' y.attrs _ ((HRy.out.drew.below hb1).more hb1.size) l2).mono ?_; rintro e w2 ⟨A2, c2, rfl, hr2, hb2⟩; try dsimp only
   refine hK.out _ _ ?_ (fun hHeld => ?_)
   · exact ⟨cellk hHeld.1 hb2, cellk hHeld.2.1 hb2, cellk hHeld.2.2.1 hb2, cellk hHeld.2.2.2.1 hb2, cellk hHeld.2.2.2.2.1 hb2, cellk hHeld.2.2.2.2.2 hb2⟩
   clear hK K
   try simp only [Act.put, sI, s0, sS]
   refine wpAnyH_ready (rs := [8]) (by kernel_rfl) (by simp) ?_
   refine ar1 rfl (fun K hK => ?_)
   go_simp
   refine (c20b _ _ _ _ _ _ _ _ _ ((hr1.below hb2).more hb2.size) hr2 true hq'.out).mono ?_; rintro e w3 ⟨rfl, hb3⟩; try dsimp only
   refine hK.out _ _ ?_ (fun hHeld => ?_)
   · exact ⟨cellk hHeld.1 hb3, cellk hHeld.2.1 hb3, cellk hHeld.2.2.1 hb3, cellk hHeld.2.2.2.1 hb3, cellk hHeld.2.2.2.2.1 hb3, cellk hHeld.2.2.2.2.2 hb3⟩
   clear hK K
   try simp only [Act.put, sI, s0, sS]
   refine tk 9 25 (v := ?_) (a' := ?_) rfl rfl ?_ ?_ rfl ?_
   rotate_left 2
   · intro w hSw; (try dsimp only at hSw); go_simp <;> with_reducible rfl
   · simp only [sI, s0, sS]; exact rfl
   refine tk 10 26 (v := ?_) (a' := ?_) rfl rfl ?_ ?_ rfl ?_
   rotate_left 2
   · intro w hSw; (try dsimp only at hSw); go_simp <;> with_reducible rfl
   · simp only [sI, s0, sS]; exact rfl
   refine tk 11 27 (v := ?_) (a' := ?_) rfl rfl ?_ ?_ rfl ?_
   rotate_left 2
   · intro w hSw; (try dsimp only at hSw); go_simp <;> with_reducible rfl
   · simp only [sI, s0, sS]; exact rfl
   refine tk 12 28 (v := ?_) (a' := ?_) rfl rfl ?_ ?_ rfl ?_
   rotate_left 2
   · intro w hSw; (try dsimp only at hSw); go_simp <;> with_reducible rfl
   · simp only [sI, s0, sS]; exact rfl
   refine tk 13 29 (v := ?_) (a' := ?_) rfl rfl ?_ ?_ rfl ?_
   rotate_left 2
   · intro w hSw; (try dsimp only at hSw); go_simp <;> with_reducible rfl
   · simp only [sI, s0, sS]; exact rfl
   refine tk 14 30 (v := ?_) (a' := ?_) rfl rfl ?_ ?_ rfl ?_
   rotate_left 2
   · intro w hSw; (try dsimp only at hSw); go_simp <;> with_reducible rfl
   · simp only [sI, s0, sS]; exact rfl
   refine tk 15 31 (v := ?_) (a' := ?_) rfl rfl ?_ ?_ rfl ?_
   rotate_left 2
   · intro w hSw; (try dsimp only at hSw); go_simp <;> with_reducible rfl
   · simp only [sI, s0, sS]; exact rfl
   refine tk 16 32 (v := ?_) (a' := ?_) rfl rfl ?_ ?_ rfl ?_
   rotate_left 2
   · intro w hSw; (try dsimp only at hSw); go_simp <;> with_reducible rfl
   · simp only [sI, s0, sS]; exact rfl
   refine tk 17 33 (v := ?_) (a' := ?_) rfl rfl ?_ ?_ rfl ?_
   rotate_left 2
   · intro w hSw; (try dsimp only at hSw); go_simp <;> with_reducible rfl
   · simp only [sI, s0, sS]; exact rfl
   refine tk 18 34 (v := (.bool true)) (a' := ?_) rfl rfl ?_ ?_ rfl ?_
   rotate_left 1
   · intro w hSw; (try dsimp only at hSw); go_simp <;> simp [hst.out]
   · simp only [sI, s0, sS]; exact rfl
   refine tk 19 35 (v := ?_) (a' := ?_) rfl rfl ?_ ?_ rfl ?_
   rotate_left 2
   · intro w hSw; (try dsimp only at hSw); go_simp <;> with_reducible rfl
   · simp only [sI, s0, sS]; exact rfl
   refine wpAnyH_skipped [(20, 36), (21, 37), (22, 38), (23, 39), (24, 40)] 3 (by kernel_rfl) (by kernel_rfl) (fun _ _ _ _ _ h => h) (by kernel_rfl) (by assumption) rfl (by simp only [skipsAct, List.foldl_cons, List.foldl_nil, sI, s0, sS]; rfl) ?_
   try simp only [Act.put, sI, s0, sS]
   refine tk 25 41 (v := ?_) (a' := ?_) rfl rfl ?_ ?_ rfl ?_
   rotate_left 2
   · intro w hSw; (try dsimp only at hSw); go_simp <;> with_reducible rfl
   · simp only [sI, s0, sS]; exact rfl
   refine tk 26 42 (v := ?_) (a' := ?_) rfl rfl ?_ ?_ rfl ?_
   rotate_left 2
   · intro w hSw; (try dsimp only at hSw); go_simp <;> with_reducible rfl
   · simp only [sI, s0, sS]; exact rfl
   refine tk 27 43 (v := ?_) (a' := ?_) rfl rfl ?_ ?_ rfl ?_
   rotate_left 2
   · intro w hSw; (try dsimp only at hSw); go_simp <;> with_reducible rfl
   · simp only [sI, s0, sS]; exact rfl
   refine wpAnyH_done (by kernel_rfl) ?_ _
   go_wp2_with fail
   go_meet
   exact ⟨by simp [hq, timesEq, hst.out], below_then (below_drew (Below.refl _ _)) (Nat.le_refl _) (below_then (below_then hb1 hb1.size hb2) (below_then hb1 hb1.size hb2).size hb3)⟩))
 case rest => (
 clear a0d b0d
 obtain ⟨hu, hb1⟩ := hcut
 obtain ⟨wa, rfl⟩ : ∃ wa : World, wa = wc := ⟨_, rfl⟩
 subst hu
 cases hq : attrsEq x y && timesEq it x y with
 | false =>
  go_wp2_with fail
  go_ret
  exact ⟨ret_b (by rw [hq]; rfl), below_then hb0 hb0.size hb1⟩
 | true =>
  cases iv with
  | true =>
   go_wp2_with fail
   go_ret
   exact ⟨ret_b (by rw [hq]; rfl), below_then hb0 hb0.size hb1⟩
  | false =>
   go_upto_region 5 with fail
   have hx1 : wa.heap[w.heap.size]? = _ := (hb1.block _ (by rw [HSZ.out]; omega)).trans HX0.out
   have hy1 : wa.heap[w.heap.size + 1]? = _ := (hb1.block _ (by rw [HSZ.out]; omega)).trans HY0.out
   have HSZ1 : Hid (w.heap.size + 2 ≤ wa.heap.size) := Lib.hid (by have := hb1.size; rw [HSZ.out] at this; exact this)
   go_cut [13, 14] (fun p q wx => ∃ b1 b2 : Nat, w.heap.size + 2 ≤ b1 ∧ w.heap.size + 2 ≤ b2 ∧ p = .pointer (some ⟨b1, 0, none⟩) ∧ q = .pointer (some ⟨b2, 0, none⟩) ∧ wx.heap[b1]? = some (.cells (ptCells x ⟨⟨aA, an, ac⟩, ⟨bA, bn, bc⟩, ⟨kA, kn, kc⟩, ⟨pA, pn, pc⟩, ⟨nA, nn, nc⟩⟩).toArray 40 (0, 0)) ∧ wx.heap[b2]? = some (.cells (ptCells y ⟨⟨aA', an', ac'⟩, ⟨bA', bn', bc'⟩, ⟨kA', kn', kc'⟩, ⟨pA', pn', pc'⟩, ⟨nA', nn', nc'⟩⟩).toArray 40 (0, 0)) ∧ Below wa.heap.size wa wx)
   case first => (
   have HX1 := Lib.hid hx1
   have HY1 := Lib.hid hy1
   clear hx1 hy1
   refine wp_region_held_drew (S := fun w' => Below wa.heap.size wa w') (by kernel_rfl) (below_drew (Below.refl _ _)) (fun hHeld => ?_)
   refine tk 0 45 (v := .pointer (some ⟨w.heap.size, 0, none⟩)) (a' := ?_) rfl rfl ?_ ?_ rfl ?_
   rotate_left 1
   · intro w hSw; go_simp
   · simp only [sI, s0, sS]; exact rfl
   refine tk 2 47 (v := .pointer (some ⟨w.heap.size + 1, 0, none⟩)) (a' := ?_) rfl rfl ?_ ?_ rfl ?_
   rotate_left 1
   · intro w hSw; go_simp
   · simp only [sI, s0, sS]; exact rfl
   refine tk 1 46 (v := .agg (ptCells x ⟨⟨aA, an, ac⟩, ⟨bA, bn, bc⟩, ⟨kA, kn, kc⟩, ⟨pA, pn, pc⟩, ⟨nA, nn, nc⟩⟩).toArray) (a' := ?_) rfl rfl ?_ ?_ rfl ?_
   rotate_left 1
   · intro w2 hSw
     refine run_load_part (x := .tmp 45) (ty := 40) rfl (b := w.heap.size) (off := 0) (e := 42) (fr := (0, 0)) (pre := []) (post := [.int .i64 x.start, .int .i64 x.time]) rfl ((hSw.block _ (by have := HSZ1.out; omega)).trans HX1.out) rfl 16 ⟨rfl, rfl⟩ info40 Tryz.underlying40 rfl
   · simp only [sI, s0, sS]; exact rfl
   refine tk 3 48 (v := .agg (ptCells y ⟨⟨aA', an', ac'⟩, ⟨bA', bn', bc'⟩, ⟨kA', kn', kc'⟩, ⟨pA', pn', pc'⟩, ⟨nA', nn', nc'⟩⟩).toArray) (a' := ?_) rfl rfl ?_ ?_ rfl ?_
   rotate_left 1
   · intro w2 hSw
     refine run_load_part (x := .tmp 47) (ty := 40) rfl (b := w.heap.size + 1) (off := 0) (e := 42) (fr := (0, 0)) (pre := []) (post := [.int .i64 y.start, .int .i64 y.time]) rfl ((hSw.block _ (by have := HSZ1.out; omega)).trans HY1.out) rfl 16 ⟨rfl, rfl⟩ info40 Tryz.underlying40 rfl
   · simp only [sI, s0, sS]; exact rfl
   refine wpAnyH_ready (rs := [4, 5]) (by kernel_rfl) (by simp) ?_
   refine AllReadyH.cons (o := _) rfl (fun K hK => ?_) (AllReadyH.cons (o := _) rfl (fun K hK => ?_) AllReadyH.nil)
   · (
   go_simp
   refine hK.out _ _ ?_ (fun hHeld => ?_)
   · exact below_drew ((Below.refl _ _).alloc (Nat.le_refl _) _)
   clear hK K
   refine wpAnyH_ready (rs := [5]) (by kernel_rfl) (by simp) ?_
   refine ar1 rfl (fun K hK => ?_)
   go_simp
   refine hK.out _ _ ?_ (fun hHeld => ?_)
   · exact below_drew (((Below.refl _ _).alloc (Nat.le_refl _) _).alloc (by simp) _)
   clear hK K
   refine wpAnyH_forget (fun w2 => Below wa.heap.size wa w2 ∧ w2.heap[wa.heap.size]? = some (.cells #[.slice none 0 0, .int .u64 0, .int .u64 0, .int .u64 0, .bool false, .bool false, .int .u64 0, .int .u64 0, .slice none 0 0, .slice none 0 0, .int .i32 0, .int .u64 0, .int .i32 0, .slice none 0 0, .int .i32 0, .slice none 0 0] 40 (0, 0)) ∧ w2.heap[wa.heap.size + 1]? = some (.cells #[.slice none 0 0, .int .u64 0, .int .u64 0, .int .u64 0, .bool false, .bool false, .int .u64 0, .int .u64 0, .slice none 0 0, .slice none 0 0, .int .i32 0, .int .u64 0, .int .i32 0, .slice none 0 0, .int .i32 0, .slice none 0 0] 40 (0, 0)) ∧ w2.heap.size = wa.heap.size + 2) ⟨hHeld, heap2_fst wa _ _, heap2_snd wa _ _, by simp⟩ (fun w2 hw2 => ?_)
   obtain ⟨hb2, hz1, hz2, hs2⟩ := hw2
   clear hHeld
   refine wpAnyH_ready (rs := [6]) (by kernel_rfl) (by simp) ?_
   refine ar1 rfl (fun K hK => ?_)
   refine store_whole 40 (.tmp 13) (.tmp 46) rfl rfl (b := wa.heap.size) 16 rfl rfl hz1 ⟨rfl, rfl⟩ info40 rfl _ (by kernel_rfl) (fun w3 h31 h32 h33 h34 => ?_)
   refine hK.out _ _ ?_ (fun hHeld => ?_)
   · exact h33 _ _ (by omega) hb2
   clear hK K
   refine wpAnyH_ready (rs := [7]) (by kernel_rfl) (by simp) ?_
   refine ar1 rfl (fun K hK => ?_)
   refine store_whole 40 (.tmp 14) (.tmp 48) rfl rfl (b := (wa.heap.size + 1)) 16 rfl rfl ((h32 _ (by omega)).trans hz2) ⟨rfl, rfl⟩ info40 rfl _ (by kernel_rfl) (fun w4 h41 h42 h43 h44 => ?_)
   refine hK.out _ _ ?_ (fun hHeld2 => ?_)
   · exact h43 _ _ (by omega) hHeld
   clear hK K
   refine wpAnyH_done (by kernel_rfl) ?_ _
   go_wp2_with fail
   go_meet
   exact ⟨wa.heap.size, (wa.heap.size + 1), by have := HSZ1.out; omega, by have := HSZ1.out; omega, rfl, rfl, (h42 _ (by omega)).trans h31, h41, hHeld2⟩)
   · (
   go_simp
   refine hK.out _ _ ?_ (fun hHeld => ?_)
   · exact below_drew ((Below.refl _ _).alloc (Nat.le_refl _) _)
   clear hK K
   refine wpAnyH_ready (rs := [4]) (by kernel_rfl) (by simp) ?_
   refine ar1 rfl (fun K hK => ?_)
   go_simp
   refine hK.out _ _ ?_ (fun hHeld => ?_)
   · exact below_drew (((Below.refl _ _).alloc (Nat.le_refl _) _).alloc (by simp) _)
   clear hK K
   refine wpAnyH_forget (fun w2 => Below wa.heap.size wa w2 ∧ w2.heap[wa.heap.size]? = some (.cells #[.slice none 0 0, .int .u64 0, .int .u64 0, .int .u64 0, .bool false, .bool false, .int .u64 0, .int .u64 0, .slice none 0 0, .slice none 0 0, .int .i32 0, .int .u64 0, .int .i32 0, .slice none 0 0, .int .i32 0, .slice none 0 0] 40 (0, 0)) ∧ w2.heap[wa.heap.size + 1]? = some (.cells #[.slice none 0 0, .int .u64 0, .int .u64 0, .int .u64 0, .bool false, .bool false, .int .u64 0, .int .u64 0, .slice none 0 0, .slice none 0 0, .int .i32 0, .int .u64 0, .int .i32 0, .slice none 0 0, .int .i32 0, .slice none 0 0] 40 (0, 0)) ∧ w2.heap.size = wa.heap.size + 2) ⟨hHeld, heap2_fst wa _ _, heap2_snd wa _ _, by simp⟩ (fun w2 hw2 => ?_)
   obtain ⟨hb2, hz1, hz2, hs2⟩ := hw2
   clear hHeld
   refine wpAnyH_ready (rs := [6]) (by kernel_rfl) (by simp) ?_
   refine ar1 rfl (fun K hK => ?_)
   refine store_whole 40 (.tmp 13) (.tmp 46) rfl rfl (b := (wa.heap.size + 1)) 16 rfl rfl hz2 ⟨rfl, rfl⟩ info40 rfl _ (by kernel_rfl) (fun w3 h31 h32 h33 h34 => ?_)
   refine hK.out _ _ ?_ (fun hHeld => ?_)
   · exact h33 _ _ (by omega) hb2
   clear hK K
   refine wpAnyH_ready (rs := [7]) (by kernel_rfl) (by simp) ?_
   refine ar1 rfl (fun K hK => ?_)
   refine store_whole 40 (.tmp 14) (.tmp 48) rfl rfl (b := wa.heap.size) 16 rfl rfl ((h32 _ (by omega)).trans hz1) ⟨rfl, rfl⟩ info40 rfl _ (by kernel_rfl) (fun w4 h41 h42 h43 h44 => ?_)
   refine hK.out _ _ ?_ (fun hHeld2 => ?_)
   · exact h43 _ _ (by omega) hHeld
   clear hK K
   refine wpAnyH_done (by kernel_rfl) ?_ _
   go_wp2_with fail
   go_meet
   exact ⟨(wa.heap.size + 1), wa.heap.size, by have := HSZ1.out; omega, by have := HSZ1.out; omega, rfl, rfl, (h42 _ (by omega)).trans h31, h41, hHeld2⟩))
   case rest => (
   obtain ⟨b1, b2, hB1, hB2, hp, hq2, hX, hY, hbc⟩ := hcut
   subst hp hq2
   have px1 := blk_cell hX 1 (.int .u64 x.value) rfl
   have px2 := blk_cell hX 2 (.int .u64 x.count) rfl
   have px3 := blk_cell hX 3 (.int .u64 x.sum) rfl
   have px4 := blk_cell hX 4 (.bool x.hasMin) rfl
   have px5 := blk_cell hX 5 (.bool x.hasMax) rfl
   have px6 := blk_cell hX 6 (.int .u64 x.min) rfl
   have px7 := blk_cell hX 7 (.int .u64 x.max) rfl
   have px8 := blk_cell hX 8 (.slice bA bn bc) rfl
   have px9 := blk_cell hX 9 (.slice kA kn kc) rfl
   have px10 := blk_cell hX 10 (.int .i32 x.scale) rfl
   have px11 := blk_cell hX 11 (.int .u64 x.zero) rfl
   have px12 := blk_cell hX 12 (.int .i32 x.posOff) rfl
   have px13 := blk_cell hX 13 (.slice pA pn pc) rfl
   have px14 := blk_cell hX 14 (.int .i32 x.negOff) rfl
   have px15 := blk_cell hX 15 (.slice nA nn nc) rfl
   have py1 := blk_cell hY 1 (.int .u64 y.value) rfl
   have py2 := blk_cell hY 2 (.int .u64 y.count) rfl
   have py3 := blk_cell hY 3 (.int .u64 y.sum) rfl
   have py4 := blk_cell hY 4 (.bool y.hasMin) rfl
   have py5 := blk_cell hY 5 (.bool y.hasMax) rfl
   have py6 := blk_cell hY 6 (.int .u64 y.min) rfl
   have py7 := blk_cell hY 7 (.int .u64 y.max) rfl
   have py8 := blk_cell hY 8 (.slice bA' bn' bc') rfl
   have py9 := blk_cell hY 9 (.slice kA' kn' kc') rfl
   have py10 := blk_cell hY 10 (.int .i32 y.scale) rfl
   have py11 := blk_cell hY 11 (.int .u64 y.zero) rfl
   have py12 := blk_cell hY 12 (.int .i32 y.posOff) rfl
   have py13 := blk_cell hY 13 (.slice pA' pn' pc') rfl
   have py14 := blk_cell hY 14 (.int .i32 y.negOff) rfl
   have py15 := blk_cell hY 15 (.slice nA' nn' nc') rfl
   have hbw : Below w.heap.size w wc := (hb0.trans (hb1.mono (by rw [HSZ.out]; omega))).trans (hbc.mono (by have := HSZ1.out; omega))
   have DX := Lib.hid ((hx'.out.below hbw).more hbw.size)
   have DY := Lib.hid ((hy'.out.below hbw).more hbw.size)
   have HBW := Lib.hid hbw
   clear hX hY hbc hbw hx1 hy1
   obtain ⟨wb, rfl⟩ : ∃ wb : World, wb = wc := ⟨_, rfl⟩
   go_upto_region 6 with fail
   go_cut [15] (fun p wx => p = .bool (extEq fl x y) ∧ wx = wb)
   case first => (
   cases he : dExt fl x.hasMin y.hasMin x.min y.min
   all_goals
    go_wp2_with (first | (go_at_call 43; refine (c43 _ _ _ _ _ _).mono ?_; rintro e w' ⟨rfl, rfl⟩))
    go_meet
    exact ⟨by simp [extEq, he], rfl⟩)
   case rest => (
   obtain ⟨hv, hwc⟩ := hcut
   subst hv hwc
   clear hx' hy' HX0 HY0 HSZ HSZ1 hW0'
   have hfin : ∀ r, dotVal kd fl x y = r → (attrsEq x y && timesEq it x y && (false || dotVal kd fl x y)) = r := by
    intro r hr
    rw [hq, hr]; simp
   clear hq
   by_cases k4 : kd = 4
   · (
   subst k4
   go_wp2_with (first
    | (go_at_call 44; refine (c44 _ _ _ _ _ _ _ _ _ _ DX.out.b DY.out.b).mono ?_; rintro e w' ⟨rfl, rfl⟩)
    | (go_at_call 45; with_reducible refine (c45 _ _ _ _ _ _ _ _ _ DX.out.k DY.out.k).mono ?_; rintro e w1 ⟨rfl, hb45⟩; have px3' := cellk px3 hb45; have py3' := cellk py3 hb45)
    | (go_at_call 46; refine (c46 _ _ _ _).mono ?_; rintro e w' ⟨rfl, rfl⟩))
   all_goals
    go_ret
    refine ⟨ret_b (hfin _ ?_), ?_⟩
    · (try clear px3' py3'); (try clear px14' py14' px15' py15'); clear px1 py1 px2 py2 px3 py3 px4 py4 px5 py5 px6 py6 px7 py7 px8 py8 px9 py9 px10 py10 px11 py11 px12 py12 px13 py13 px14 py14 px15 py15; simp [dotVal, *]
    · first | exact HBW.out | exact below_then HBW.out HBW.out.size hb45)
   · (
   by_cases k5 : kd = 5
   · (
   subst k5
   go_wp2_with (first
    | (go_at_call 46; refine (c46 _ _ _ _).mono ?_; rintro e w' ⟨rfl, rfl⟩)
    | (go_at_call 45; with_reducible refine (c45 _ _ _ _ _ _ _ _ _ DX.out.p DY.out.p).mono ?_; rintro e w1 ⟨rfl, hb45⟩; have px14' := cellk px14 hb45; have py14' := cellk py14 hb45; have px15' := cellk px15 hb45; have py15' := cellk py15 hb45)
    | (go_at_call 45; with_reducible refine (c45 _ _ _ _ _ _ _ _ _ ((DX.out.n.below hb45).more hb45.size) ((DY.out.n.below hb45).more hb45.size)).mono ?_; rintro e w2 ⟨rfl, hb46⟩))
   all_goals
    go_ret
    refine ⟨ret_b (hfin _ ?_), ?_⟩
    · (try clear px3' py3'); (try clear px14' py14' px15' py15'); clear px1 py1 px2 py2 px3 py3 px4 py4 px5 py5 px6 py6 px7 py7 px8 py8 px9 py9 px10 py10 px11 py11 px12 py12 px13 py13 px14 py14 px15 py15; simp [dotVal, *]
    · first | exact HBW.out | exact below_then HBW.out HBW.out.size hb45 | exact below_then (below_then HBW.out HBW.out.size hb45) (Nat.le_trans HBW.out.size hb45.size) hb46)
   · (
   go_wp2_with (first
    | (go_at_call 46; refine (c46 _ _ _ _).mono ?_; rintro e w' ⟨rfl, rfl⟩))
   all_goals
    go_ret
    refine ⟨ret_b (hfin _ ?_), HBW.out⟩
    clear px1 py1 px2 py2 px3 py3 px4 py4 px5 py5 px6 py6 px7 py7 px8 py8 px9 py9 px10 py10 px11 py11 px12 py12 px13 py13 px14 py14 px15 py15
    simp [dotVal, *])))))
end Go.Proofs.YtlpddogcnpokfaaGreatDoor
