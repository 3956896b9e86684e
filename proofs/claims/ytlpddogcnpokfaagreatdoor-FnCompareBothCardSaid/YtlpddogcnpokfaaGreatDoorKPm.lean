/- Contracts of functions of the program, for the comparison of aggregations (part KPm). -/
import Derived.Test.YtlpddogcnpokfaaGreatDoorKSw
set_option linter.all false
namespace Go.Proofs.YtlpddogcnpokfaaGreatDoor
open Go.RowKit
/-! ### Making points -/
def cv (fl : Bool) (x : Int) : Int := if fl then x else wrap64 x
def mkDp (fl : Bool) (d : Dot) : Dot := { attrs := sortK d.attrs, value := cv fl d.value, count := 0, sum := 0, hasMin := false, hasMax := false, min := 0, max := 0, bounds := [], buckets := [], scale := 0, zero := 0, posOff := 0, pos := [], negOff := 0, neg := [], start := d.start, time := d.time }
def mkHp (fl : Bool) (d : Dot) : Dot := { attrs := sortK d.attrs, value := 0, count := d.count, sum := cv fl d.sum, hasMin := d.hasMin, hasMax := d.hasMax, min := if d.hasMin then cv fl d.min else 0, max := if d.hasMax then cv fl d.max else 0, bounds := d.bounds, buckets := d.buckets, scale := 0, zero := 0, posOff := 0, pos := [], negOff := 0, neg := [], start := d.start, time := d.time }
def mkEp (fl : Bool) (d : Dot) : Dot := { attrs := sortK d.attrs, value := 0, count := d.count, sum := cv fl d.sum, hasMin := d.hasMin, hasMax := d.hasMax, min := if d.hasMin then cv fl d.min else 0, max := if d.hasMax then cv fl d.max else 0, bounds := [], buckets := [], scale := d.scale, zero := d.zero, posOff := d.posOff, pos := d.pos, negOff := d.negOff, neg := d.neg, start := d.start, time := d.time }
def nilS : Sl := ⟨none, 0, 0⟩
theorem info63 : (Tryz.prog.info? 63).map (·.size) = some 18 := by kernel_rfl
theorem info61 : (Tryz.prog.info? 61).map (·.size) = some 16 := by kernel_rfl
theorem c30v (x : Int) (w : World) : (callFunc 30 #[.int .u64 x]).run Tryz.prog w = .ok (.value (.float .f64 x.toNat)) w := by kernel_rfl
theorem cell_blk {w w' : World} {b o : Nat} (h : w'.heap[b]? = w.heap[b]?) : w'.cell? ⟨b, o, none⟩ = w.cell? ⟨b, o, none⟩ := by simp [World.cell?, h]
theorem c22_of (a b : Value) (it iv D : Bool) (w : World) (C : Calls Tryz.prog 39 #[a, b, .agg #[.bool it, .bool iv]] w fun e w' => ∃ A n c, e = .returned (.slice A n c) ∧ Below w.heap.size w w' ∧ (n = 0 ↔ D = true)) :
 Calls Tryz.prog 22 #[a, b, .bool it, .bool iv] w fun e w' => e = .returned (.bool D) ∧ Below w.heap.size w w' := by
 have HC := Lib.hid C
 clear C
 go_enter Tryz.func22, Tryz.ntmps22
 go_wp2_with (go_at_call 39; (with_reducible refine HC.out.mono ?_); rintro e w1 ⟨A, n, c, rfl, hb, hiff⟩; have e1 := eq0b hiff)
 go_ret
 exact ⟨rfl, hb⟩
set_option maxRecDepth 100000 in
set_option maxHeartbeats 4000000 in
theorem c69 (d : Dot) (s : Sl5) (w : World) (hd : DotR w w.heap.size d s) (ha : AttrsOk d.attrs) :
 Calls Tryz.prog 69 #[.agg (dotCells d s).toArray, .func (.func 42) #[] #[]] w fun e w' => ∃ s1 : Sl, e = .returned (.agg (dpI (mkDp false d, ⟨s1, nilS, nilS, nilS, nilS⟩)).toArray) ∧ SetNew w w' s1 (sortK d.attrs) ∧ Below w.heap.size w w' := by
 obtain ⟨cx, hcx⟩ : ∃ cx, cx = (dotCells d s).toArray := ⟨_, rfl⟩
 rw [← hcx]
 obtain ⟨W0, hW0⟩ : ∃ W0, W0 = (w.alloc (.cells cx 63)).alloc (.cells #[.int .u64 0, .slice none 0 0, .int .i64 0, .int .i64 0, .int .i64 0, .slice none 0 0] 170) := ⟨_, rfl⟩
 obtain ⟨x0, hx0⟩ : ∃ x, x = w.heap.size := ⟨_, rfl⟩
 obtain ⟨x1, hx1⟩ : ∃ x, x = w.heap.size + 1 := ⟨_, rfl⟩
 have hb : Below w.heap.size w W0 := by rw [hW0]; exact ((Below.refl _ _).alloc (Nat.le_refl _) _).alloc (by simp) _
 have z0 : W0.heap[x0]? = some (.cells cx 63 (0, 0)) := by rw [hW0, hx0, Below.heap_alloc _ _ _ (by simp)]; exact heap_alloc_new w _
 have z1 : W0.heap[x1]? = some (.cells #[.int .u64 0, .slice none 0 0, .int .i64 0, .int .i64 0, .int .i64 0, .slice none 0 0] 170 (0, 0)) := by
  rw [hW0, hx1]
  have := heap_alloc_new (w.alloc (.cells cx 63)) (.cells #[.int .u64 0, .slice none 0 0, .int .i64 0, .int .i64 0, .int .i64 0, .slice none 0 0] 170)
  simpa using this
 have q0 := blk_cell z0 0 (.slice s.a.A s.a.n s.a.c) (by rw [hcx]; rfl)
 have q1 := blk_cell z0 1 (.int .u64 d.value) (by rw [hcx]; rfl)
 have q2 := blk_cell z0 16 (.int .i64 d.start) (by rw [hcx]; rfl)
 have q3 := blk_cell z0 17 (.int .i64 d.time) (by rw [hcx]; rfl)
 have C36 := Lib.hid fun (W : World) (hW : Below w.heap.size w W) => c36 s.a.A s.a.n s.a.c d.attrs W ((hd.a.below hW).more hW.size) ha
 have HBD : Hid (Below w.heap.size w W0.drew) := Lib.hid (below_drew hb)
 have hlx : w.heap.size ≤ x1 := by omega
 have hx01 : x0 ≠ x1 := by omega
 have hsz : x1 < W0.heap.size := (Array.getElem?_eq_some_iff.1 z1).1
 have HW := Lib.hid hW0
 have HX0 := Lib.hid hx0
 have HX1 := Lib.hid hx1
 have HSZ := Lib.hid hsz
 clear hW0 hb hcx hd ha hsz
 go_enter Tryz.func69, Tryz.ntmps69
 go_upto_region 1 with fail
 rw [← HW.out]
 rw [← HX1.out]
 rw [← HX0.out]
 clear HW hx0 hx1 z0 HX0
 refine wp_region_held_drew (S := (fun w' => w'.cell? ⟨x0, 0, none⟩ = some (.slice s.a.A s.a.n s.a.c) ∧ w'.cell? ⟨x0, 1, none⟩ = some (.int .u64 d.value) ∧ w'.cell? ⟨x0, 16, none⟩ = some (.int .i64 d.start) ∧ w'.cell? ⟨x0, 17, none⟩ = some (.int .i64 d.time))) (by kernel_rfl) ⟨q0, q1, q2, q3⟩ (fun hHeld => ?_)
 refine tk 0 5 (v := .pointer (some ⟨x0, 0, none⟩)) (a' := ?_) rfl rfl ?_ ?_ rfl ?_
 rotate_left 1
 · intro w2 hSw; (try obtain ⟨hS0, hS1, hS2, hS3⟩ := hSw); go_simp
 · simp only [sI, s0, sS]; exact rfl
 refine tk 1 6 (v := .pointer (some ⟨x0, 0, none⟩)) (a' := ?_) rfl rfl ?_ ?_ rfl ?_
 rotate_left 1
 · intro w2 hSw; (try obtain ⟨hS0, hS1, hS2, hS3⟩ := hSw); go_simp
 · simp only [sI, s0, sS]; exact rfl
 refine tk 2 7 (v := .slice s.a.A s.a.n s.a.c) (a' := ?_) rfl rfl ?_ ?_ rfl ?_
 rotate_left 1
 · intro w2 hSw; (try obtain ⟨hS0, hS1, hS2, hS3⟩ := hSw); go_simp
 · simp only [sI, s0, sS]; exact rfl
 refine tk 4 9 (v := .pointer (some ⟨x0, 16, none⟩)) (a' := ?_) rfl rfl ?_ ?_ rfl ?_
 rotate_left 1
 · intro w2 hSw; (try obtain ⟨hS0, hS1, hS2, hS3⟩ := hSw); go_simp
 · simp only [sI, s0, sS]; exact rfl
 refine tk 5 10 (v := .int .i64 d.start) (a' := ?_) rfl rfl ?_ ?_ rfl ?_
 rotate_left 1
 · intro w2 hSw; (try obtain ⟨hS0, hS1, hS2, hS3⟩ := hSw); go_simp
 · simp only [sI, s0, sS]; exact rfl
 refine tk 6 11 (v := .agg #[.int .i64 d.start]) (a' := ?_) rfl rfl ?_ ?_ rfl ?_
 rotate_left 1
 · intro w2 hSw; (try obtain ⟨hS0, hS1, hS2, hS3⟩ := hSw); go_simp
 · simp only [sI, s0, sS]; exact rfl
 refine tk 7 12 (v := .pointer (some ⟨x0, 17, none⟩)) (a' := ?_) rfl rfl ?_ ?_ rfl ?_
 rotate_left 1
 · intro w2 hSw; (try obtain ⟨hS0, hS1, hS2, hS3⟩ := hSw); go_simp
 · simp only [sI, s0, sS]; exact rfl
 refine tk 8 13 (v := .int .i64 d.time) (a' := ?_) rfl rfl ?_ ?_ rfl ?_
 rotate_left 1
 · intro w2 hSw; (try obtain ⟨hS0, hS1, hS2, hS3⟩ := hSw); go_simp
 · simp only [sI, s0, sS]; exact rfl
 refine tk 9 14 (v := .agg #[.int .i64 d.time]) (a' := ?_) rfl rfl ?_ ?_ rfl ?_
 rotate_left 1
 · intro w2 hSw; (try obtain ⟨hS0, hS1, hS2, hS3⟩ := hSw); go_simp
 · simp only [sI, s0, sS]; exact rfl
 refine tk 10 15 (v := .func (.func 42) #[] #[]) (a' := ?_) rfl rfl ?_ ?_ rfl ?_
 rotate_left 1
 · intro w2 hSw; (try obtain ⟨hS0, hS1, hS2, hS3⟩ := hSw); go_simp
 · simp only [sI, s0, sS]; exact rfl
 refine tk 11 16 (v := .pointer (some ⟨x0, 0, none⟩)) (a' := ?_) rfl rfl ?_ ?_ rfl ?_
 rotate_left 1
 · intro w2 hSw; (try obtain ⟨hS0, hS1, hS2, hS3⟩ := hSw); go_simp
 · simp only [sI, s0, sS]; exact rfl
 refine tk 12 17 (v := .pointer (some ⟨x0, 1, none⟩)) (a' := ?_) rfl rfl ?_ ?_ rfl ?_
 rotate_left 1
 · intro w2 hSw; (try obtain ⟨hS0, hS1, hS2, hS3⟩ := hSw); go_simp
 · simp only [sI, s0, sS]; exact rfl
 refine tk 13 18 (v := .int .u64 d.value) (a' := ?_) rfl rfl ?_ ?_ rfl ?_
 rotate_left 1
 · intro w2 hSw; (try obtain ⟨hS0, hS1, hS2, hS3⟩ := hSw); go_simp
 · simp only [sI, s0, sS]; exact rfl
 refine wpAnyH_ready (rs := [3]) (by kernel_rfl) (by simp) ?_
 refine ar1 rfl (fun K hK => ?_)
 go_simp
 refine (C36.out _ HBD.out).mono ?_
 rintro e w1 ⟨s1, rfl, hset, hb1⟩
 try dsimp only
 refine hK.out _ _ ⟨cellk hHeld.1 hb1, cellk hHeld.2.1 hb1, cellk hHeld.2.2.1 hb1, cellk hHeld.2.2.2 hb1⟩ (fun hHeld => ?_)
 clear hK K
 try simp only [Act.put, sI, s0, sS]
 refine wpAnyH_ready (rs := [14]) (by kernel_rfl) (by simp) ?_
 refine ar1 rfl (fun K hK => ?_)
 go_simp
 refine (c42 _ _).mono ?_
 rintro e w4 ⟨rfl, rfl⟩
 simp only [numV, Bool.false_eq_true, if_false]
 try dsimp only
 refine hK.out _ _ hHeld (fun hHeld => ?_)
 clear hK K
 try simp only [Act.put, sI, s0, sS]
 refine tk 15 20 (v := .agg (dpI (mkDp false d, ⟨s1, nilS, nilS, nilS, nilS⟩)).toArray) (a' := ?_) rfl rfl ?_ ?_ rfl ?_
 rotate_left 1
 · intro w2 hSw; (try obtain ⟨hS0, hS1, hS2, hS3⟩ := hSw); go_simp; rfl
 · simp only [sI, s0, sS]; exact rfl
 refine wpAnyH_ready (rs := [16]) (by kernel_rfl) (by simp) ?_
 refine ar1 rfl (fun K hK => ?_)
 refine store_whole 170 (.tmp 4) (.tmp 20) rfl rfl (b := x1) 6 rfl rfl ((hb1.block _ HSZ.out).trans z1) ⟨rfl, rfl⟩ info170 rfl _ (by kernel_rfl) (fun w3 h31 h32 h33 h34 => ?_)
 refine hK.out _ _ ⟨(cell_blk (h32 x0 hx01)).trans hHeld.1, (cell_blk (h32 x0 hx01)).trans hHeld.2.1, (cell_blk (h32 x0 hx01)).trans hHeld.2.2.1, (cell_blk (h32 x0 hx01)).trans hHeld.2.2.2⟩ (fun hHeld2 => ?_)
 clear hK K
 refine wpAnyH_done (by kernel_rfl) ?_ _
 go_wp2_with fail
 refine bodyPost_ret (results_cell_row rfl _ _ _ _ _ _ _ rfl h31 Tryz.underlying170 rfl info170) rfl ⟨s1, rfl, ?_, ?_⟩
 · have hlt : x1 < W0.drew.heap.size := HSZ.out
   exact (hset.stored hlt h32 h34).older (by have := HBD.out.size; omega)
 · exact h33 _ _ hlx (below_then HBD.out HBD.out.size hb1)
set_option maxRecDepth 100000 in
set_option maxHeartbeats 4000000 in
theorem c67 (d : Dot) (s : Sl5) (w : World) (hd : DotR w w.heap.size d s) (ha : AttrsOk d.attrs) :
 Calls Tryz.prog 67 #[.agg (dotCells d s).toArray, .func (.func 30) #[] #[]] w fun e w' => ∃ s1 : Sl, e = .returned (.agg (dpF (mkDp true d, ⟨s1, nilS, nilS, nilS, nilS⟩)).toArray) ∧ SetNew w w' s1 (sortK d.attrs) ∧ Below w.heap.size w w' := by
 obtain ⟨cx, hcx⟩ : ∃ cx, cx = (dotCells d s).toArray := ⟨_, rfl⟩
 rw [← hcx]
 obtain ⟨W0, hW0⟩ : ∃ W0, W0 = (w.alloc (.cells cx 63)).alloc (.cells #[.int .u64 0, .slice none 0 0, .int .i64 0, .int .i64 0, .float .f64 0, .slice none 0 0] 156) := ⟨_, rfl⟩
 obtain ⟨x0, hx0⟩ : ∃ x, x = w.heap.size := ⟨_, rfl⟩
 obtain ⟨x1, hx1⟩ : ∃ x, x = w.heap.size + 1 := ⟨_, rfl⟩
 have hb : Below w.heap.size w W0 := by rw [hW0]; exact ((Below.refl _ _).alloc (Nat.le_refl _) _).alloc (by simp) _
 have z0 : W0.heap[x0]? = some (.cells cx 63 (0, 0)) := by rw [hW0, hx0, Below.heap_alloc _ _ _ (by simp)]; exact heap_alloc_new w _
 have z1 : W0.heap[x1]? = some (.cells #[.int .u64 0, .slice none 0 0, .int .i64 0, .int .i64 0, .float .f64 0, .slice none 0 0] 156 (0, 0)) := by
  rw [hW0, hx1]
  have := heap_alloc_new (w.alloc (.cells cx 63)) (.cells #[.int .u64 0, .slice none 0 0, .int .i64 0, .int .i64 0, .float .f64 0, .slice none 0 0] 156)
  simpa using this
 have q0 := blk_cell z0 0 (.slice s.a.A s.a.n s.a.c) (by rw [hcx]; rfl)
 have q1 := blk_cell z0 1 (.int .u64 d.value) (by rw [hcx]; rfl)
 have q2 := blk_cell z0 16 (.int .i64 d.start) (by rw [hcx]; rfl)
 have q3 := blk_cell z0 17 (.int .i64 d.time) (by rw [hcx]; rfl)
 have C36 := Lib.hid fun (W : World) (hW : Below w.heap.size w W) => c36 s.a.A s.a.n s.a.c d.attrs W ((hd.a.below hW).more hW.size) ha
 have HBD : Hid (Below w.heap.size w W0.drew) := Lib.hid (below_drew hb)
 have hlx : w.heap.size ≤ x1 := by omega
 have hx01 : x0 ≠ x1 := by omega
 have hsz : x1 < W0.heap.size := (Array.getElem?_eq_some_iff.1 z1).1
 have HW := Lib.hid hW0
 have HX0 := Lib.hid hx0
 have HX1 := Lib.hid hx1
 have HSZ := Lib.hid hsz
 clear hW0 hb hcx hd ha hsz
 go_enter Tryz.func67, Tryz.ntmps67
 go_upto_region 1 with fail
 rw [← HW.out]
 rw [← HX1.out]
 rw [← HX0.out]
 clear HW hx0 hx1 z0 HX0
 refine wp_region_held_drew (S := (fun w' => w'.cell? ⟨x0, 0, none⟩ = some (.slice s.a.A s.a.n s.a.c) ∧ w'.cell? ⟨x0, 1, none⟩ = some (.int .u64 d.value) ∧ w'.cell? ⟨x0, 16, none⟩ = some (.int .i64 d.start) ∧ w'.cell? ⟨x0, 17, none⟩ = some (.int .i64 d.time))) (by kernel_rfl) ⟨q0, q1, q2, q3⟩ (fun hHeld => ?_)
 refine tk 0 5 (v := .pointer (some ⟨x0, 0, none⟩)) (a' := ?_) rfl rfl ?_ ?_ rfl ?_
 rotate_left 1
 · intro w2 hSw; (try obtain ⟨hS0, hS1, hS2, hS3⟩ := hSw); go_simp
 · simp only [sI, s0, sS]; exact rfl
 refine tk 1 6 (v := .pointer (some ⟨x0, 0, none⟩)) (a' := ?_) rfl rfl ?_ ?_ rfl ?_
 rotate_left 1
 · intro w2 hSw; (try obtain ⟨hS0, hS1, hS2, hS3⟩ := hSw); go_simp
 · simp only [sI, s0, sS]; exact rfl
 refine tk 2 7 (v := .slice s.a.A s.a.n s.a.c) (a' := ?_) rfl rfl ?_ ?_ rfl ?_
 rotate_left 1
 · intro w2 hSw; (try obtain ⟨hS0, hS1, hS2, hS3⟩ := hSw); go_simp
 · simp only [sI, s0, sS]; exact rfl
 refine tk 4 9 (v := .pointer (some ⟨x0, 16, none⟩)) (a' := ?_) rfl rfl ?_ ?_ rfl ?_
 rotate_left 1
 · intro w2 hSw; (try obtain ⟨hS0, hS1, hS2, hS3⟩ := hSw); go_simp
 · simp only [sI, s0, sS]; exact rfl
 refine tk 5 10 (v := .int .i64 d.start) (a' := ?_) rfl rfl ?_ ?_ rfl ?_
 rotate_left 1
 · intro w2 hSw; (try obtain ⟨hS0, hS1, hS2, hS3⟩ := hSw); go_simp
 · simp only [sI, s0, sS]; exact rfl
 refine tk 6 11 (v := .agg #[.int .i64 d.start]) (a' := ?_) rfl rfl ?_ ?_ rfl ?_
 rotate_left 1
 · intro w2 hSw; (try obtain ⟨hS0, hS1, hS2, hS3⟩ := hSw); go_simp
 · simp only [sI, s0, sS]; exact rfl
 refine tk 7 12 (v := .pointer (some ⟨x0, 17, none⟩)) (a' := ?_) rfl rfl ?_ ?_ rfl ?_
 rotate_left 1
 · intro w2 hSw; (try obtain ⟨hS0, hS1, hS2, hS3⟩ := hSw); go_simp
 · simp only [sI, s0, sS]; exact rfl
 refine tk 8 13 (v := .int .i64 d.time) (a' := ?_) rfl rfl ?_ ?_ rfl ?_
 rotate_left 1
 · intro w2 hSw; (try obtain ⟨hS0, hS1, hS2, hS3⟩ := hSw); go_simp
 · simp only [sI, s0, sS]; exact rfl
 refine tk 9 14 (v := .agg #[.int .i64 d.time]) (a' := ?_) rfl rfl ?_ ?_ rfl ?_
 rotate_left 1
 · intro w2 hSw; (try obtain ⟨hS0, hS1, hS2, hS3⟩ := hSw); go_simp
 · simp only [sI, s0, sS]; exact rfl
 refine tk 10 15 (v := .func (.func 30) #[] #[]) (a' := ?_) rfl rfl ?_ ?_ rfl ?_
 rotate_left 1
 · intro w2 hSw; (try obtain ⟨hS0, hS1, hS2, hS3⟩ := hSw); go_simp
 · simp only [sI, s0, sS]; exact rfl
 refine tk 11 16 (v := .pointer (some ⟨x0, 0, none⟩)) (a' := ?_) rfl rfl ?_ ?_ rfl ?_
 rotate_left 1
 · intro w2 hSw; (try obtain ⟨hS0, hS1, hS2, hS3⟩ := hSw); go_simp
 · simp only [sI, s0, sS]; exact rfl
 refine tk 12 17 (v := .pointer (some ⟨x0, 1, none⟩)) (a' := ?_) rfl rfl ?_ ?_ rfl ?_
 rotate_left 1
 · intro w2 hSw; (try obtain ⟨hS0, hS1, hS2, hS3⟩ := hSw); go_simp
 · simp only [sI, s0, sS]; exact rfl
 refine tk 13 18 (v := .int .u64 d.value) (a' := ?_) rfl rfl ?_ ?_ rfl ?_
 rotate_left 1
 · intro w2 hSw; (try obtain ⟨hS0, hS1, hS2, hS3⟩ := hSw); go_simp
 · simp only [sI, s0, sS]; exact rfl
 refine wpAnyH_ready (rs := [3]) (by kernel_rfl) (by simp) ?_
 refine ar1 rfl (fun K hK => ?_)
 go_simp
 refine (C36.out _ HBD.out).mono ?_
 rintro e w1 ⟨s1, rfl, hset, hb1⟩
 try dsimp only
 refine hK.out _ _ ⟨cellk hHeld.1 hb1, cellk hHeld.2.1 hb1, cellk hHeld.2.2.1 hb1, cellk hHeld.2.2.2 hb1⟩ (fun hHeld => ?_)
 clear hK K
 try simp only [Act.put, sI, s0, sS]
 refine tk 14 19 (v := .float .f64 (d.value).toNat) (a' := ?_) rfl rfl ?_ ?_ rfl ?_
 rotate_left 1
 · intro w2 hSw; (try obtain ⟨hS0, hS1, hS2, hS3⟩ := hSw); go_simp; exact c30v _ _
 · simp only [sI, s0, sS]; exact rfl
 refine tk 15 20 (v := .agg (dpF (mkDp true d, ⟨s1, nilS, nilS, nilS, nilS⟩)).toArray) (a' := ?_) rfl rfl ?_ ?_ rfl ?_
 rotate_left 1
 · intro w2 hSw; (try obtain ⟨hS0, hS1, hS2, hS3⟩ := hSw); go_simp; rfl
 · simp only [sI, s0, sS]; exact rfl
 refine wpAnyH_ready (rs := [16]) (by kernel_rfl) (by simp) ?_
 refine ar1 rfl (fun K hK => ?_)
 refine store_whole 156 (.tmp 4) (.tmp 20) rfl rfl (b := x1) 6 rfl rfl ((hb1.block _ HSZ.out).trans z1) ⟨rfl, rfl⟩ info156 rfl _ (by kernel_rfl) (fun w3 h31 h32 h33 h34 => ?_)
 refine hK.out _ _ ⟨(cell_blk (h32 x0 hx01)).trans hHeld.1, (cell_blk (h32 x0 hx01)).trans hHeld.2.1, (cell_blk (h32 x0 hx01)).trans hHeld.2.2.1, (cell_blk (h32 x0 hx01)).trans hHeld.2.2.2⟩ (fun hHeld2 => ?_)
 clear hK K
 refine wpAnyH_done (by kernel_rfl) ?_ _
 go_wp2_with fail
 refine bodyPost_ret (results_cell_row rfl _ _ _ _ _ _ _ rfl h31 Tryz.underlying156 rfl info156) rfl ⟨s1, rfl, ?_, ?_⟩
 · have hlt : x1 < W0.drew.heap.size := HSZ.out
   exact (hset.stored hlt h32 h34).older (by have := HBD.out.size; omega)
 · exact h33 _ _ hlx (below_then HBD.out HBD.out.size hb1)
end Go.Proofs.YtlpddogcnpokfaaGreatDoor
