/- Contracts of functions of the program, for the comparison of aggregations (part KA4). -/
import Derived.Test.YtlpddogcnpokfaaGreatDoorKDot
import Derived.Laws.OwnMore
set_option linter.all false
namespace Go.Proofs.YtlpddogcnpokfaaGreatDoor
open Go.RowKit
section
def sameDot (kd : Int) (fl it iv : Bool) (x y : Dot) : Bool := attrsEq x y && timesEq it x y && (iv || dotVal kd fl x y)
set_option maxRecDepth 100000 in
set_option maxHeartbeats 2000000 in
theorem c25 (kd : Int) (fl it iv : Bool) (x y : Dot) (s t : Sl5) (w : World) (b1 b2 b3 b4 : Nat) (h1 : w.cell? ⟨b1, 0, none⟩ = some (.int .u8 kd)) (h2 : w.cell? ⟨b1, 1, none⟩ = some (.bool fl))
 (h3 : w.heap[b2]? = some (.cells (dotCells x s).toArray 42 (0, 0))) (h4 : w.cell? ⟨b3, 0, none⟩ = some (.bool it)) (h5 : w.cell? ⟨b4, 0, none⟩ = some (.bool iv))
 (hx : DotR w w.heap.size x s) (hy : DotR w w.heap.size y t) (hx8 : x.attrs.length ≤ 8) (hy8 : y.attrs.length ≤ 8) :
 Calls Tryz.prog 25 #[.agg (dotCells y t).toArray, .pointer (some ⟨b1, 0, none⟩), .pointer (some ⟨b2, 0, none⟩), .pointer (some ⟨b3, 0, none⟩), .pointer (some ⟨b4, 0, none⟩)] w fun e w' => e = .returned (.bool (sameDot kd fl it iv x y)) ∧ Below w.heap.size w w' := by
 obtain ⟨W0, hW0⟩ : ∃ W0, W0 = w.alloc (.cells (dotCells y t).toArray 42) := ⟨_, rfl⟩
 have hb0 : Below w.heap.size w W0 := ba hW0
 have hn0 : W0.heap[w.heap.size]? = some (.cells (dotCells y t).toArray 42 (0, 0)) := by rw [hW0]; exact heap_alloc_new w _
 have hlt : b2 < w.heap.size := by
  rcases Nat.lt_or_ge b2 w.heap.size with h | h
  · exact h
  · rw [Array.getElem?_eq_none h] at h3; cases h3
 have h3' : W0.heap[b2]? = some (.cells (dotCells x s).toArray 42 (0, 0)) := (hb0.block _ hlt).trans h3
 have k1 := cellk h1 hb0
 have k2 := cellk h2 hb0
 have k4 := cellk h4 hb0
 have k5 := cellk h5 hb0
 have C := Lib.hid (c26 kd fl it iv x y s t W0 ((hx.below hb0).more hb0.size) ((hy.below hb0).more hb0.size) hx8 hy8)
 have HW := Lib.hid hW0
 have HB0 := Lib.hid hb0
 clear hW0 h1 h2 h3 h4 h5 hx hy hb0
 have l1 : (dotCells x s).toArray.size = 18 := rfl
 have l2 : (dotCells y t).toArray.size = 18 := rfl
 generalize (dotCells x s).toArray = cx at *
 generalize (dotCells y t).toArray = cy at *
 have e : Calls Tryz.prog 25 #[.agg cy, .pointer (some ⟨b1, 0, none⟩), .pointer (some ⟨b2, 0, none⟩), .pointer (some ⟨b3, 0, none⟩), .pointer (some ⟨b4, 0, none⟩)] w fun e w' => e = .returned (.bool (sameDot kd fl it iv x y)) ∧ Below w.heap.size w w' := by
  go_enter Tryz.func25, Tryz.ntmps25
  go_upto_region 1 with fail
  rw [← HW.out]
  clear HW
  go_wp2_with (first
   | ((with_reducible refine arm_load_all 18 info42 Tryz.underlying42 h3' ?_ ?_ ?_ ?_); rfl; rfl; exact l1)
   | ((with_reducible refine arm_load_all 18 info42 Tryz.underlying42 hn0 ?_ ?_ ?_ ?_); rfl; rfl; exact l2)
   | (go_at_call 26; refine C.out.mono ?_; rintro e w' ⟨rfl, hb⟩))
  go_ret
  exact ⟨rfl, below_then HB0.out HB0.out.size hb⟩
 exact e
def zeroDot : Value := .agg #[.slice none 0 0, .int .u64 0, .int .u64 0, .int .u64 0, .bool false, .bool false, .int .u64 0, .int .u64 0, .slice none 0 0, .slice none 0 0, .int .i32 0, .int .u64 0, .int .i32 0, .slice none 0 0, .int .i32 0, .slice none 0 0, .int .i64 0, .int .i64 0]
theorem info42d : (Tryz.prog.info? 42).map (fun i => (i.zero, i.size, i.bytes)) = some (some zeroDot, 18, 216) := by kernel_rfl
def rowsD (l : List (Dot × Sl5)) : List (List Value) := l.map fun x => dotCells x.1 x.2
theorem one_dots (l : List (Dot × Sl5)) : ∀ u ∈ (rowsD l).flatten, u.oneCell' = true := by
 intro u hu
 obtain ⟨r, hr, hu⟩ := List.mem_flatten.1 hu
 obtain ⟨x, _, rfl⟩ := List.mem_map.1 hr
 simp only [dotCells, List.mem_cons, List.not_mem_nil, or_false] at hu
 rcases hu with rfl | rfl | rfl | rfl | rfl | rfl | rfl | rfl | rfl | rfl | rfl | rfl | rfl | rfl | rfl | rfl | rfl | rfl <;> rfl
set_option maxHeartbeats 400000 in
theorem c12 (A : Option Addr) (n c : Nat) (l : List (Dot × Sl5)) (w : World) (h : Rd w w.heap.size 18 A n c (rowsD l)) (hsm : n ≤ 1000) :
 Calls Tryz.prog 12 #[.slice A n c] w fun e w' => ∃ v, e = .returned v ∧ w'.ownsRow w.heap.size 42 18 v n (rowsD l).flatten ∧ Below w.heap.size w w' := by
 obtain ⟨i0, hi, hz0, hz1, hz2⟩ := info_parts3 info42d
 have q22 : ∀ (w : World) (a : Option Addr) (n c n' c' : Nat), (binOp .eql 22 (.slice a n c) (.slice none n' c')).run Tryz.prog w = .ok (.bool a.isNone) w := fun w a n c n' c' => Lib.run_eql_slice_nil w _ _ a n c n' c' Tryz.underlying22
 have hone := one_dots l
 cases A with
 | none =>
  have hn : n = 0 := by
   rcases Nat.eq_zero_or_pos n with h0 | h0
   · exact h0
   · obtain ⟨b, o, he, _⟩ := h.mem h0
     cases he
  subst hn
  have hl : l = [] := by have := h.numlen; exact List.eq_nil_of_length_eq_zero (by simpa [rowsD] using h.len)
  subst hl
  clear h hi hz0 hz1 hz2
  go_enter Tryz.func12, Tryz.ntmps12
  go_wp2_with fail
  go_ret
  exact ⟨_, rfl, ⟨by simp [rowsD], .inl ⟨rfl, rfl⟩⟩, Below.refl _ _⟩
 | some ad =>
  have hsrc := h.src ad rfl
  generalize (rowsD l).flatten = xs at hsrc hone ⊢
  have H := Lib.hid hsrc
  have hn := h.top
  have hi' := Lib.hid hi
  have hz0' := Lib.hid hz0
  have hz1' := Lib.hid hz1
  have hz2' := Lib.hid hz2
  have hone' := Lib.hid hone
  clear hsrc h hi hz0 hz1 hz2 hone
  have hzd : zeroDot.cells.size = 18 := rfl
  have hzd' := Lib.hid hzd
  clear hzd
  generalize zeroDot = zd at hz0' hzd'
  go_enter Tryz.func12, Tryz.ntmps12
  go_wp2_with (at_builtin; (refine wpList_append_own_at _ rfl _ _ 22 rfl w.heap.size 42 i0 zd 18 216 Tryz.underlying22 hi'.out hz0'.out hz1'.out hz2'.out hzd'.out (by decide) _ 0 [] rfl (own_empty w 42 18 w.heap.size (Nat.le_refl _)) ad n c xs rfl H.out.1 ?_ hone'.out ?_ ?_ ?_ ?_); (exact fun j u hu => keep_alloc (H.out.2 j u hu) _); (simp only [maxLen]; omega); omega; simp; intro v1 w1 hown1 hg1 _ _)
  go_ret
  refine ⟨v1, rfl, by simpa using hown1, ((Below.refl _ _).alloc (Nat.le_refl _) _).grown hg1 (by simp) (fun k hk => ?_)⟩
  have hk' : some w.heap.size = some k := hk
  injection hk' with hk'
  omega
theorem append_fits_step {P : Program} {op : Oper} {a : Act} {w : World} {K : Act → World → Prop} {Q : Exit → Act → World → Prop} (s x : Operand) (t : TypeId) (ho : op.op = .call { callee := .builtin .append, args := #[s, x], argTypes := #[t, t] })
 (base e size : Nat) (i : TypeInfo) (ht : P.underlying t = some (.slice e)) (hi : P.info? e = some i) (hsize : i.size = size) (g n cap : Nat) (xs : List Value) (hs : a.eval s = .slice (some ⟨g, 0, none⟩) n cap) (hown : w.ownsRow base e size (.slice (some ⟨g, 0, none⟩) n cap) n xs)
 (ad : Addr) (m c : Nat) (news : List Value) (hx : a.eval x = .slice (some ad) m c) (hl : news.length = m * size) (hnews : ∀ j u, news[j]? = some u → w.cell? (ad.add j) = some u) (h1 : ∀ u ∈ news, u.oneCell' = true) (hroom : n + m ≤ cap) (b : Bool) (hb : b = true) (d : Tmp) (hd : op.dst = some d)
 (h : ∀ w', w'.ownsRow base e size (.slice (some ⟨g, 0, none⟩) (n + m) cap) (n + m) (xs ++ news) → w.grownBy w' (some g) → K { a with tmps := a.tmps.setIfInBounds d (.slice (some ⟨g, 0, none⟩) (n + m) cap) } w') :
 if b = true then op.wp P a w K Q else K (a.put op.dst undef) w := by
 subst hb
 rw [if_pos rfl]
 obtain ⟨w', hr, h2, h3⟩ := run_append_fits (P := P) w base t op.type e i size ht hi hsize g n cap xs hown ad m c news hl hnews h1 hroom
 unfold Oper.wp execOp
 simp only [ho, resolve, invoke, builtin, Sem.run_bind, Sem.run_pure, Result.andThen_ok, List.map_toArray, List.map_cons, List.map_nil, hs, hx, hr]
 have h' := h w' h2 h3
 unfold Oper.upon
 simp only [hd]
 exact h'
theorem run_clear_own {P : Program} (w : World) (base t ty e : TypeId) (size : Nat) (ht : P.underlying t = some (.slice e)) (z : Value) (hz : ∀ w, (zeroValue e).run P w = .ok z w) (hzs : z.cells.size = size) (h1 : ∀ u ∈ z.cells.toList, u.oneCell' = true)
 (g n m cap c : Nat) (xs : List Value) (hown : w.ownsRow base e size (.slice (some ⟨g, 0, none⟩) n cap) n xs) (hm : 0 < m) (hnm : n + m ≤ cap) :
 ∃ w', (Builtin.clear_ #[t] ty #[.slice (some ⟨g, n * size, none⟩) m c]).run P w = .ok (.tuple #[]) w' ∧ w'.ownsRow base e size (.slice (some ⟨g, 0, none⟩) n cap) n xs ∧ w.grownBy w' (some g) := by
 rcases hown.2 with ⟨h, _⟩ | ⟨g', cap', cur, h, hbg, hg, hnc, hcm, hcs, htake⟩
 · simp at h
 · (
 simp only [Value.slice.injEq, Option.some.injEq, Addr.mk.injEq, and_true, true_and] at h
 obtain ⟨rfl, rfl⟩ := h
 obtain ⟨k, rfl⟩ : ∃ k, m = k + 1 := ⟨m - 1, by omega⟩
 have hsz : (Builtin.zeroCells z.cells (k + 1)).toList.length = (k + 1) * size := by rw [Array.length_toList, size_zeroCells, hzs]
 have hfit : n * size + (k + 1) * size ≤ cur.size := by rw [hcs, ← Nat.add_mul]; exact Nat.mul_le_mul_right _ hnm
 have hst := run_storeCells_at P g (n * size) e (Builtin.zeroCells z.cells (k + 1)).toList 0 cur w hg (by rw [hsz]; simpa using hfit) (by
  intro u hu
  have hu' : u ∈ Builtin.zeroCells z.cells (k + 1) := by simpa using hu
  unfold Builtin.zeroCells at hu'
  obtain ⟨j, hj, rfl⟩ := Array.mem_map.1 hu'
  have hpos : 0 < z.cells.size := by
   rcases Nat.eq_zero_or_pos z.cells.size with h0 | h0
   · rw [h0] at hj; simp at hj
   · exact h0
  have hlt := Nat.mod_lt j hpos
  rw [getElem!_pos z.cells _ hlt]
  exact h1 _ (by simp))
 simp only [Nat.add_zero] at hst
 refine ⟨w.setRow g (cur.toList.take (n * size) ++ (Builtin.zeroCells z.cells (k + 1)).toList ++ cur.toList.drop (n * size + (Builtin.zeroCells z.cells (k + 1)).toList.length)).toArray, ?_, ⟨hown.1, .inr ⟨g, cap, _, rfl, hbg, setRow_heap w g cur _ e _ hg, hnc, hcm, ?_, ?_⟩⟩, ⟨rfl, rfl, rfl, by simp, fun k _ hk => setRow_other w g k _ (fun e => hk (by simp [e]))⟩⟩
 · have hz' := hz w
   simp [Builtin.clear_, Sem.run_bind, run_underlying ht, hz', hst]
 · simp only [List.size_toArray, List.length_append, List.length_take, List.length_drop, Array.length_toList, hsz]
   omega
 · (
 rw [← htake]
 simp only [List.append_assoc]
 rw [List.take_append_of_le_length (by simp; omega), List.take_take, Nat.min_self]))
set_option maxRecDepth 100000 in
set_option maxHeartbeats 2000000 in
theorem c27 (B g n cap i : Nat) (xs : List Value) (w : World) (hown : w.ownsRow B 42 18 (.slice (some ⟨g, 0, none⟩) n cap) n xs) (hi : i < n) (hone : ∀ u ∈ xs, u.oneCell' = true) :
 Calls Tryz.prog 27 #[.slice (some ⟨g, 0, none⟩) n cap, .int .i64 i, .int .i64 ((i : Int) + 1)] w fun e w' => e = .returned (.slice (some ⟨g, 0, none⟩) (n - 1) cap) ∧ w'.ownsRow B 42 18 (.slice (some ⟨g, 0, none⟩) (n - 1) cap) (n - 1) (xs.take (i * 18) ++ xs.drop ((i + 1) * 18)) ∧ Below B w w' := by
 have hcm : n ≤ cap ∧ cap ≤ maxLen := by
  rcases hown.2 with ⟨h, _⟩ | ⟨g', cap', cur, h, hbg, hg, hnc, hcm, hcs, htake⟩
  · simp at h
  · (
  simp only [Value.slice.injEq, Option.some.injEq, Addr.mk.injEq, and_true, true_and] at h
  obtain ⟨rfl, rfl⟩ := h
  exact ⟨hnc, hcm⟩)
 obtain ⟨hnc, hcm⟩ := hcm
 simp only [maxLen] at hcm
 have H := Lib.hid hown
 have H1 := Lib.hid hone
 clear hown hone
 have f1 : (i : Int) ≤ (i : Int) + 1 := by omega
 have f2 : (i : Int) + 1 ≤ (n : Int) := by omega
 have f3 : (n : Int) ≤ (cap : Int) := by omega
 go_enter Tryz.func27, Tryz.ntmps27
 go_upto_region 5 with fail
 refine wp_region_held_drew (S := fun _ => True) (by kernel_rfl) trivial (fun hHeld => ?_)
 refine tk 0 20 (v := ?_) (a' := ?_) rfl rfl ?_ ?_ rfl ?_
 rotate_left 2
 · intro w hSw; go_simp <;> with_reducible rfl
 · simp only [sI, s0, sS]; exact rfl
 refine tk 1 21 (v := ?_) (a' := ?_) rfl rfl ?_ ?_ rfl ?_
 rotate_left 2
 · intro w hSw; go_simp <;> with_reducible rfl
 · simp only [sI, s0, sS]; exact rfl
 refine tk 3 23 (v := ?_) (a' := ?_) rfl rfl ?_ ?_ rfl ?_
 rotate_left 2
 · intro w hSw; go_simp <;> with_reducible rfl
 · simp only [sI, s0, sS]; exact rfl
 refine tk 4 24 (v := ?_) (a' := ?_) rfl rfl ?_ ?_ rfl ?_
 rotate_left 2
 · intro w hSw; go_simp <;> with_reducible rfl
 · simp only [sI, s0, sS]; exact rfl
 refine tk 2 22 (v := .slice (some ⟨g, 0, none⟩) i cap) (a' := ?_) rfl rfl ?_ ?_ rfl ?_
 rotate_left 1
 · intro w hSw; go_simp; intro h; omega
 · simp only [sI, s0, sS]; exact rfl
 refine tk 5 25 (v := .slice (some ⟨g, if cap = i + 1 then 0 else (i + 1) * 18, none⟩) (n - (i + 1)) (cap - (i + 1))) (a' := ?_) rfl rfl ?_ ?_ rfl ?_
 rotate_left 1
 · intro w hSw; go_simp; rw [if_pos (by omega)]; split <;> rfl
 · simp only [sI, s0, sS]; exact rfl
 have hlen := H.out.1
 have hcell : ∀ j u, xs[j]? = some u → w.cell? ⟨g, j, none⟩ = some u := fun j u hj => by
  have := H.out.cells (g := g) rfl j u hj
  rwa [Addr.add_mid, Nat.zero_add] at this
 have hpre : w.drew.ownsRow B 42 18 (.slice (some ⟨g, 0, none⟩) i cap) i (xs.take (i * 18)) := by
  rcases H.out.2 with ⟨h, _⟩ | ⟨g', cap', cur, h, hbg, hg, hnc', hcm', hcs, htake⟩
  · simp at h
  · (
  simp only [Value.slice.injEq, Option.some.injEq, Addr.mk.injEq, and_true, true_and] at h
  obtain ⟨rfl, rfl⟩ := h
  refine ⟨by rw [List.length_take, hlen]; have := Nat.mul_le_mul_right 18 (Nat.le_of_lt hi); omega, .inr ⟨g, cap, cur, rfl, hbg, hg, by omega, hcm', hcs, ?_⟩⟩
  rw [← htake, List.take_take, Nat.min_eq_left (Nat.mul_le_mul_right 18 (Nat.le_of_lt hi))])
 have hBg : B ≤ g ∧ g < w.heap.size := by
  rcases H.out.2 with ⟨h, _⟩ | ⟨g', cap', cur, h, hbg, hg, hnc', hcm', hcs, htake⟩
  · simp at h
  · (
  simp only [Value.slice.injEq, Option.some.injEq, Addr.mk.injEq, and_true, true_and] at h
  obtain ⟨rfl, rfl⟩ := h
  exact ⟨hbg, (Array.getElem?_eq_some_iff.1 hg).1⟩)
 have hnl : (xs.drop ((i + 1) * 18)).length = (n - (i + 1)) * 18 := by rw [List.length_drop, hlen, Nat.sub_mul]
 have hnc2 : ∀ j u, (xs.drop ((i + 1) * 18))[j]? = some u → w.drew.cell? ((⟨g, if cap = i + 1 then 0 else (i + 1) * 18, none⟩ : Addr).add j) = some u := by
  intro j u hj
  rw [Addr.add_mid]
  have hj' := (List.getElem?_eq_some_iff.1 hj).1
  rw [if_neg (by intro h; rw [hnl] at hj'; have : n - (i + 1) = 0 := by omega
                 rw [this] at hj'; omega)]
  refine hcell _ _ ?_
  rw [List.getElem?_drop] at hj
  exact hj
 have hon2 : ∀ u ∈ xs.drop ((i + 1) * 18), u.oneCell' = true := fun u hu => H1.out u (List.drop_subset _ _ hu)
 have HPRE := Lib.hid hpre
 have HNC2 := Lib.hid hnc2
 have HCE := Lib.hid hcell
 have HON2 := Lib.hid hon2
 clear hpre hnc2 hcell hon2
 obtain ⟨i0, hi0, hz0, hz1, hz2⟩ := info_parts3 info42d
 generalize (if cap = i + 1 then 0 else (i + 1) * 18) = off at HNC2 ⊢
 refine wpAnyH_ready (rs := [6]) (by kernel_rfl) (by simp) ?_
 refine ar1 rfl (fun K hK => ?_)
 refine append_fits_step (.tmp 22) (.tmp 25) 22 rfl B 42 18 i0 Tryz.underlying22 hi0 hz1 g i cap _ rfl HPRE.out _ _ _ _ rfl hnl HNC2.out HON2.out (by omega) _ (by kernel_rfl) 26 rfl (fun w1 hown1 hg1 => ?_)
 refine hK.out _ _ trivial (fun _ => ?_)
 clear hK K
 rw [show i + (n - (i + 1)) = n - 1 by omega] at hown1 ⊢
 simp only [sI, s0, sS]
 refine wpAnyH_took 7 0 (v := ?_) (a' := ?_) rfl rfl (by kernel_rfl) (by kernel_rfl) (by kernel_rfl) (fun _ _ _ h => h) (by kernel_rfl) trivial ?_ ?_ rfl ?_
 rotate_left 2
 · intro w hSw; go_simp <;> with_reducible rfl
 · simp only [sI, s0, sS]; exact rfl
 refine wpAnyH_done (by kernel_rfl) ?_ _
 have HOWN1 := Lib.hid hown1
 clear hown1
 have f4 : ((n - 1 : Nat) : Int) ≤ (n : Int) := by omega
 have hz42 : ∀ w, (zeroValue 42).run Tryz.prog w = .ok zeroDot w := Tryz.zeroValue42
 obtain ⟨w2, hclr, hown2, hg2⟩ := run_clear_own w1 B 22 0 42 18 Tryz.underlying22 zeroDot hz42 rfl (by decide) g (n - 1) (n - (n - 1)) cap (cap - (n - 1)) _ HOWN1.out (by omega) (by omega)
 have f5 : ¬ cap = n - 1 := by omega
 have HOWN2 := Lib.hid hown2
 clear hown2
 go_wp2_with fail
 go_ret
 refine ⟨rfl, HOWN2.out, ?_⟩
 have s1 : w.heap.size ≤ w1.heap.size := hg1.size
 exact ((below_drew (Below.refl _ _)).grown hg1 (by show B ≤ w.heap.size; omega) (fun k hk => by injection hk with hk; omega)).grown hg2 (by omega) (fun k hk => by injection hk with hk; omega)
end
section
def takeOut (p : Dot → Bool) : List (Dot × Sl5) → Option (List (Dot × Sl5))
 | [] => none
 | y :: r => if p y.1 then some r else (takeOut p r).map (y :: ·)
theorem idx_takeOut {α : Type} (f : α → Dot × Sl5) (p : Dot → Bool) (d : α) : ∀ (zs : List α) (i : Nat),
 (Lib.idxByFrom (fun _ y => p (f y).1) d zs i = -1 ∧ takeOut p (zs.map f) = none) ∨ ∃ k, k < zs.length ∧ Lib.idxByFrom (fun _ y => p (f y).1) d zs i = ((i + k : Nat) : Int) ∧ takeOut p (zs.map f) = some ((zs.map f).take k ++ (zs.map f).drop (k + 1))
 | [], i => .inl ⟨rfl, rfl⟩
 | y :: r, i => by
  cases hp : p (f y).1 with
  | true => exact .inr ⟨0, by simp, by simp [Lib.idxByFrom, hp], by simp [takeOut, hp]⟩
  | false =>
   rcases idx_takeOut f p d r (i + 1) with ⟨h1, h2⟩ | ⟨k, hk, h1, h2⟩
   · exact .inl ⟨by simp [Lib.idxByFrom, hp, h1], by simp [takeOut, hp, h2]⟩
   · exact .inr ⟨k + 1, by simpa using hk, by simp only [Lib.idxByFrom, hp]; simp only [Bool.false_eq_true, if_false, h1]; congr 1; omega, by simp [takeOut, hp, h2]⟩
def dot0 : Dot := ⟨[], 0, 0, 0, false, false, 0, 0, [], [], 0, 0, 0, [], 0, [], 0, 0⟩
def sl0 : Sl5 := ⟨⟨none, 0, 0⟩, ⟨none, 0, 0⟩, ⟨none, 0, 0⟩, ⟨none, 0, 0⟩, ⟨none, 0, 0⟩⟩
theorem rd_none (w : World) (B size : Nat) : Rd w B size none 0 0 [] := ⟨rfl, Nat.le_refl _, by decide, by decide, by simp, by omega⟩
theorem dotR0 (w : World) (B : Nat) : DotR w B dot0 sl0 := ⟨rd_none _ _ _, rd_none _ _ _, rd_none _ _ _, rd_none _ _ _, rd_none _ _ _, ⟨by simp [dot0], by simp [dot0, U64], by simp [dot0, U64], by simp [dot0, U64], by simp [dot0, U64], by simp [dot0]⟩⟩
theorem eg25 : ∀ args w, (callFunc 25 args).run Tryz.prog w = .ok (.enter 25 args) w := enters_of Tryz.func25 (by kernel_rfl) rfl
def DotOk (w : World) (x : Dot × Sl5) : Prop := DotR w w.heap.size x.1 x.2 ∧ x.1.attrs.length ≤ 8
theorem c24 (kd : Int) (fl it iv : Bool) (x : Dot) (s : Sl5) (w : World) (b1 b2 b3 b4 g off n c : Nat) (l : List (Dot × Sl5)) (h1 : w.cell? ⟨b1, 0, none⟩ = some (.int .u8 kd)) (h2 : w.cell? ⟨b1, 1, none⟩ = some (.bool fl))
 (h3 : w.heap[b2]? = some (.cells (dotCells x s).toArray 42 (0, 0))) (h4 : w.cell? ⟨b3, 0, none⟩ = some (.bool it)) (h5 : w.cell? ⟨b4, 0, none⟩ = some (.bool iv))
 (hx : DotOk w (x, s)) (hl : ∀ y ∈ l, DotOk w y) (hn : l.length = n) (hbig : n ≤ 1000) (hg : g < w.heap.size) (hc : ∀ j u, (rowsD l).flatten[j]? = some u → w.cell? ⟨g, off + j, none⟩ = some u) :
 Calls Tryz.prog 24 #[.slice (some ⟨g, off, none⟩) n c, .func (.func 25) #[] #[.pointer (some ⟨b1, 0, none⟩), .pointer (some ⟨b2, 0, none⟩), .pointer (some ⟨b3, 0, none⟩), .pointer (some ⟨b4, 0, none⟩)]] w fun e w' =>
  (∃ r : Int, e = .returned (.int .i64 r) ∧ ((r = -1 ∧ takeOut (sameDot kd fl it iv x) l = none) ∨ ∃ k, k < n ∧ r = (k : Int) ∧ takeOut (sameDot kd fl it iv x) l = some (l.take k ++ l.drop (k + 1)))) ∧ Below w.heap.size w w' := by
 have inst : Inhabited {y : Dot × Sl5 // DotOk w y} := ⟨⟨(dot0, sl0), dotR0 _ _, by simp [dot0]⟩⟩
 obtain ⟨zs, hzs⟩ : ∃ zs : List {y : Dot × Sl5 // DotOk w y}, zs.map (·.1) = l := ⟨l.attach.map fun y => ⟨y.1, hl _ y.2⟩, by rw [List.map_map]; exact List.attach_map_subtype_val l⟩
 have hp : PredBelow Tryz.prog 25 #[.pointer (some ⟨b1, 0, none⟩), .pointer (some ⟨b2, 0, none⟩), .pointer (some ⟨b3, 0, none⟩), .pointer (some ⟨b4, 0, none⟩)] (fun y : {y : Dot × Sl5 // DotOk w y} => .agg (dotCells y.1.1 y.1.2).toArray) (fun y => sameDot kd fl it iv x y.1.1) w := by
  intro W y hb
  have hlt : b2 < w.heap.size := (Array.getElem?_eq_some_iff.1 h3).1
  have := c25 kd fl it iv x y.1.1 s y.1.2 W b1 b2 b3 b4 (cellk h1 hb) (cellk h2 hb) ((hb.block _ hlt).trans h3) (cellk h4 hb) (cellk h5 hb) ((hx.1.below hb).more hb.size) ((y.2.1.below hb).more hb.size) hx.2 y.2.2
  exact this.mono fun e w' h => ⟨h.1, below_then hb hb.size h.2⟩
 have hlen : zs.length = n := by rw [← hn, ← hzs, List.length_map]
 have := AnyQ.slices_IndexFunc Tryz.sl24 18 Tryz.isAgg42 Tryz.sizeOf42 (fun y : {y : Dot × Sl5 // DotOk w y} => dotCells y.1.1 y.1.2) (fun _ => rfl) (fun y => sameDot kd fl it iv x y.1.1) 25 _ eg25 g off n c zs w hp (by omega) (by omega) hg (fun j hj i v hi => by
  have hrow : (rowsD l)[j]? = some (dotCells zs[j]!.1.1 zs[j]!.1.2) := by
   rw [rowsD, List.getElem?_map, ← hzs, List.getElem?_map, List.getElem?_eq_getElem hj, getElem!_pos zs j hj]; rfl
  have hi' : i < 18 := (List.getElem?_eq_some_iff.1 hi).1
  have := flatten_at 18 (rowsD l) j i _ (fun r hr => by obtain ⟨q, _, rfl⟩ := List.mem_map.1 hr; rfl) hrow hi'
  have h9 := hc (j * 18 + i) v (this.trans hi)
  rw [← Nat.add_assoc] at h9
  exact h9)
 refine Calls.mono (f := 24) this fun e w' h => ⟨⟨_, h.1, ?_⟩, h.2⟩
 rw [List.take_of_length_le (by omega)]
 rcases idx_takeOut (fun y : {y : Dot × Sl5 // DotOk w y} => y.1) (sameDot kd fl it iv x) default zs 0 with ⟨r1, r2⟩ | ⟨k, hk, r1, r2⟩
 · exact .inl ⟨r1, by rw [← hzs]; exact r2⟩
 · refine .inr ⟨k, by omega, by rw [show ((k : Nat) : Int) = ((0 + k : Nat) : Int) by simp]; exact r1, ?_⟩
   rw [← hzs]; exact r2
end
section
open Go.Sort
def sameDots (p : Dot → Dot → Bool) : List (Dot × Sl5) → List (Dot × Sl5) → Bool
 | [], _ => true
 | x :: xs, left => match takeOut (p x.1) left with | none => false | some r => sameDots p xs r
def headEq (a b : Data) : Bool := a.kind == b.kind && a.float == b.float && (a.kind == 2 || a.delta == b.delta) && (!(a.kind == 0) || a.mono == b.mono) && a.dots.length == b.dots.length
def sameData (it iv : Bool) (a b : Data) : Bool := headEq a b && sameDots (sameDot a.kind a.float it iv) a.dots b.dots
theorem ownsRow_keep {w w' : World} {B e size : Nat} {g n cap m : Nat} {xs : List Value} (h : w.ownsRow B e size (.slice (some ⟨g, 0, none⟩) n cap) m xs) (hg : w'.heap[g]? = w.heap[g]?) : w'.ownsRow B e size (.slice (some ⟨g, 0, none⟩) n cap) m xs := by
 refine ⟨h.1, ?_⟩
 rcases h.2 with ⟨h1, _⟩ | ⟨g', cap', cur, h1, hbg, h2, rest⟩
 · simp at h1
 · (
 have h1' := h1
 simp only [Value.slice.injEq, Option.some.injEq, Addr.mk.injEq, and_true, true_and] at h1'
 obtain ⟨⟨rfl⟩, _⟩ := h1'
 exact .inr ⟨g, cap', cur, h1, hbg, by rw [hg]; exact h2, rest⟩)
theorem own_some {w : World} {B e size : Nat} {v : Value} {n : Nat} {xs : List Value} (h : w.ownsRow B e size v n xs) (hn : 0 < n) : ∃ g cap, v = .slice (some ⟨g, 0, none⟩) n cap ∧ B ≤ g ∧ g < w.heap.size ∧ n ≤ cap ∧ cap ≤ maxLen := by
 rcases h.2 with ⟨_, h1⟩ | ⟨g', cap', cur, h1, hbg, h2, h3, h4, rest⟩
 · omega
 · exact ⟨g', cap', h1, hbg, (Array.getElem?_eq_some_iff.1 h2).1, h3, h4⟩
theorem rows_out (l : List (Dot × Sl5)) (k : Nat) : (rowsD l).flatten.take (k * 18) ++ (rowsD l).flatten.drop ((k + 1) * 18) = (rowsD (l.take k ++ l.drop (k + 1))).flatten := by
 have h : ∀ (l : List (Dot × Sl5)) (k : Nat), (rowsD l).flatten.take (k * 18) = (rowsD (l.take k)).flatten ∧ (rowsD l).flatten.drop (k * 18) = (rowsD (l.drop k)).flatten := by
  intro l
  induction l with
  | nil => intro k; simp [rowsD]
  | cons x l ih =>
   intro k
   cases k with
   | zero => simp [rowsD]
   | succ k =>
    have hl : (dotCells x.1 x.2).length = 18 := rfl
    obtain ⟨i1, i2⟩ := ih k
    constructor
    · (
    show ((dotCells x.1 x.2) ++ (rowsD l).flatten).take ((k + 1) * 18) = _
    rw [List.take_append, List.take_of_length_le (by omega), hl, show (k + 1) * 18 - 18 = k * 18 by omega, i1]
    rfl)
    · (
    show ((dotCells x.1 x.2) ++ (rowsD l).flatten).drop ((k + 1) * 18) = _
    rw [List.drop_append, List.drop_eq_nil_of_le (by omega), hl, show (k + 1) * 18 - 18 = k * 18 by omega, i2]
    rfl)
 rw [(h l k).1, (h l (k + 1)).2]
 simp [rowsD]
theorem drop_of_get {α : Type} {l : List α} {k : Nat} {x : α} (h : l[k]? = some x) : l.drop k = x :: l.drop (k + 1) := by
 obtain ⟨hk, rfl⟩ := List.getElem?_eq_some_iff.1 h
 exact List.drop_eq_getElem_cons hk
set_option maxRecDepth 100000 in
set_option maxHeartbeats 4000000 in
theorem c16 (it iv : Bool) (a b : Data) (A1 A2 : Option Addr) (n1 k1 n2 k2 : Nat) (w : World) (ha : DotsR w w.heap.size A1 n1 k1 a.dots) (hb : DotsR w w.heap.size A2 n2 k2 b.dots)
 (ha8 : ∀ x ∈ a.dots, x.1.attrs.length ≤ 8) (hb8 : ∀ x ∈ b.dots, x.1.attrs.length ≤ 8) (h2 : n2 ≤ 1000) :
 Calls Tryz.prog 16 #[.agg #[.int .u8 a.kind, .bool a.float, .bool a.delta, .bool a.mono, .slice A1 n1 k1], .agg #[.int .u8 b.kind, .bool b.float, .bool b.delta, .bool b.mono, .slice A2 n2 k2], .bool it, .bool iv] w fun e w' => e = .returned (.bool (sameData it iv a b)) ∧ Below w.heap.size w w' := by
 have hl1 := ha.rd.len
 have hl2 := hb.rd.len
 rw [List.length_map] at hl1 hl2
 have t1 := ha.rd.top
 have t2 := hb.rd.top
 have e1 := ha.rd.cap
 have e2 := ha.rd.ctop
 obtain ⟨W0, hW0⟩ : ∃ W0, W0 = (((w.alloc (.cells #[.int .u8 a.kind, .bool a.float, .bool a.delta, .bool a.mono, .slice A1 n1 k1] 24)).alloc (.cells #[.int .u8 b.kind, .bool b.float, .bool b.delta, .bool b.mono, .slice A2 n2 k2] 24)).alloc (.cells #[.bool it] 4)).alloc (.cells #[.bool iv] 4) := ⟨_, rfl⟩
 have hb0 : Below w.heap.size w W0 := by rw [hW0]; exact ((((Below.refl _ _).alloc (Nat.le_refl _) _).alloc (by simp) _).alloc (by simp; omega) _).alloc (by simp; omega) _
 have hs0 : W0.heap.size = w.heap.size + 4 := by rw [hW0]; simp
 have x0 : W0.cell? ⟨w.heap.size, 0, none⟩ = some (.int .u8 a.kind) := by rw [hW0]; simp [go_sem]
 have x1 : W0.cell? ⟨w.heap.size, 1, none⟩ = some (.bool a.float) := by rw [hW0]; simp [go_sem]
 have x2 : W0.cell? ⟨w.heap.size, 2, none⟩ = some (.bool a.delta) := by rw [hW0]; simp [go_sem]
 have x3 : W0.cell? ⟨w.heap.size, 3, none⟩ = some (.bool a.mono) := by rw [hW0]; simp [go_sem]
 have x4 : W0.cell? ⟨w.heap.size, 4, none⟩ = some (.slice A1 n1 k1) := by rw [hW0]; simp [go_sem]
 have y0 : W0.cell? ⟨w.heap.size + 1, 0, none⟩ = some (.int .u8 b.kind) := by rw [hW0]; simp [go_sem]
 have y1 : W0.cell? ⟨w.heap.size + 1, 1, none⟩ = some (.bool b.float) := by rw [hW0]; simp [go_sem]
 have y2 : W0.cell? ⟨w.heap.size + 1, 2, none⟩ = some (.bool b.delta) := by rw [hW0]; simp [go_sem]
 have y3 : W0.cell? ⟨w.heap.size + 1, 3, none⟩ = some (.bool b.mono) := by rw [hW0]; simp [go_sem]
 have y4 : W0.cell? ⟨w.heap.size + 1, 4, none⟩ = some (.slice A2 n2 k2) := by rw [hW0]; simp [go_sem]
 have z0 : W0.cell? ⟨w.heap.size + 1 + 1, 0, none⟩ = some (.bool it) := by rw [hW0]; simp [go_sem]
 have z1 : W0.cell? ⟨w.heap.size + 1 + 1 + 1, 0, none⟩ = some (.bool iv) := by rw [hW0]; simp [go_sem]
 have HW := Lib.hid hW0
 have HS0 := Lib.hid hs0
 have HB0 := Lib.hid hb0
 have C12 := Lib.hid (c12 A2 n2 k2 b.dots W0 ((hb.rd.below hb0).more hb0.size) h2)
 have HA := Lib.hid ((ha.below hb0).more hb0.size)
 have HB := Lib.hid ((hb.below hb0).more hb0.size)
 have HA8 := Lib.hid ha8
 have HB8 := Lib.hid hb8
 clear hW0 hs0 hb0 ha hb ha8 hb8
 go_enter Tryz.func16, Tryz.ntmps16
 go_upto_region 1 with fail
 rw [← HW.out]
 clear HW
 go_cut [0, 1, 57] (fun s0 s1 s57 wx => s0 = .agg #[.int .u8 a.kind, .bool a.float, .bool a.delta, .bool a.mono, .slice A1 n1 k1] ∧ s1 = .agg #[.int .u8 b.kind, .bool b.float, .bool b.delta, .bool b.mono, .slice A2 n2 k2] ∧ s57 = .bool (!(headEq a b)) ∧ wx = W0)
 case first => (
 have q1 : (a.dots.length == b.dots.length) = ((n1 : Int) == (n2 : Int)) := by
  rw [hl1, hl2, Bool.eq_iff_iff]; simp; omega
 have Q1 := Lib.hid q1
 clear q1 hl1 hl2 t1 t2 e1 e2
 go_wp2_with fail
 all_goals
  go_meet
  refine ⟨by simp [*], by simp [*], ?_, rfl⟩
  unfold headEq
  rw [Q1.out]
  simp [*, bne])
 case rest => (
 obtain ⟨hu0, hu1, hu, hwc⟩ := hcut
 subst hu0 hu1 hu hwc
 obtain ⟨W0, rfl⟩ : ∃ W0 : World, W0 = wc := ⟨_, rfl⟩
 cases hq : headEq a b with
 | false =>
  go_wp2_with fail
  go_ret
  exact ⟨ret_b (by simp [sameData, hq]), HB0.out⟩
 | true =>
  have hq' : a.dots.length = b.dots.length := by
   simp only [headEq, Bool.and_eq_true, beq_iff_eq] at hq
   exact hq.2
  have hfin : ∀ r, sameDots (sameDot a.kind a.float it iv) a.dots b.dots = r → sameData it iv a b = r := fun r hr => by simp [sameData, hq, hr]
  have HFIN := Lib.hid hfin
  clear hq hfin
  have hnn : n1 = n2 := by omega
  subst hnn
  go_upto_region 4 with (go_at_call 12; refine C12.out.mono ?_; rintro e w1 ⟨v, rfl, hown, hb1⟩)
  have T1 := Lib.hid t1
  have x4' := cellk x4 hb1
  go_wp2_with fail
  go_loopw [9, 64] (fun v i wr => ∃ (k : Nat) (left : List (Dot × Sl5)), k ≤ n1 ∧ i = .int .i64 k ∧ wr.ownsRow W0.heap.size 42 18 v (n1 - k) (rowsD left).flatten ∧ left.length = n1 - k ∧ (∀ y ∈ left, y ∈ b.dots) ∧ Below W0.heap.size W0 wr ∧ sameDots (sameDot a.kind a.float it iv) a.dots b.dots = sameDots (sameDot a.kind a.float it iv) (a.dots.drop k) left) (fun _ i _ => n1 - (intOf i).toNat)
  case atStart => exact ⟨0, b.dots, Nat.zero_le _, rfl, hown, hl2, fun _ h => h, hb1, rfl⟩
  case round => (
  obtain ⟨k, left, hk, rfl, hown, hll, hsub, hb, hsame⟩ := hrel
  obtain ⟨wo, rfl⟩ : ∃ wo : World, wo = wr := ⟨_, rfl⟩
  by_cases hlt : k < n1
  · (
  obtain ⟨g, cap, rfl, hBg, hglt, hmc, hcm⟩ := own_some hown (by omega)
  obtain ⟨bb, o, d, s, rfl, hbB, hx, hd, hc⟩ := (HA.out.below hb).at_ hlt
  have hdrop := drop_of_get hx
  have hdok : d.attrs.length ≤ 8 := HA8.out _ (List.mem_of_getElem? hx)
  have hbs := hb.size
  have hbn : Below wo.heap.size wo (wo.alloc (.cells (dotCells d s).toArray 42)) := (Below.refl _ _).alloc (Nat.le_refl _) _
  have hb2 : Below W0.heap.size W0 (wo.alloc (.cells (dotCells d s).toArray 42)) := hb.alloc hb.size _
  have hs2 : (wo.alloc (.cells (dotCells d s).toArray 42)).heap.size = wo.heap.size + 1 := by simp
  have hcl : ∀ j u, (rowsD left).flatten[j]? = some u → (wo.alloc (.cells (dotCells d s).toArray 42)).cell? ⟨g, 0 + j, none⟩ = some u := fun j u hj => by
   have := hown.cells (g := g) rfl j u hj
   rw [Addr.add_mid] at this
   exact cellk this hbn
  have C24 := Lib.hid (c24 a.kind a.float it iv d s (wo.alloc (.cells (dotCells d s).toArray 42)) w.heap.size wo.heap.size (w.heap.size + 1 + 1) (w.heap.size + 1 + 1 + 1) g 0 (n1 - k) cap left
   (cellk x0 hb2) (cellk x1 hb2) (heap_alloc_new wo _) (cellk z0 hb2) (cellk z1 hb2) ⟨(hd.below (hbn.mono (by omega))).more (by omega), hdok⟩ (fun y hy => ⟨((HB.out.all y (hsub y hy)).below hb2).more (by omega), HB8.out y (hsub y hy)⟩) hll (by omega) (by omega) hcl)
  have HOWN := Lib.hid hown
  have HX := Lib.hid hx
  have HDROP := Lib.hid hdrop
  have HSAME := Lib.hid hsame
  have HB2 := Lib.hid hb2
  have HS2 := Lib.hid hs2
  have HBN := Lib.hid hbn
  have HSUB := Lib.hid hsub
  have HLL := Lib.hid hll
  have HD := Lib.hid hd
  clear hown hx hdrop hsame hb2 hs2 hbn hsub hll hcl hd
  simp only [maxLen] at hcm
  have ko : (k : Int) < (n1 : Int) := by omega
  go_upto_region 8 with (first
   | ((with_reducible refine arm_load hc ?_ 18 info42 Tryz.underlying42 ?_ ?_ ?_); rfl; rfl; rfl)
   | ((with_reducible apply arm_store_new 18 info42); rfl; simp; rfl; rfl; rfl; rfl)
   | (go_at_call 24; refine C24.out.mono ?_; rintro e w3 ⟨⟨r, rfl, hr⟩, hb3⟩))
  have hb02 : Below w.heap.size w w3 := below_then (below_then HB0.out HB0.out.size HB2.out) (by have := HB0.out.size; have := HS2.out; omega) hb3
  have hb23 : Below W0.heap.size W0 w3 := below_then HB2.out (by have := HS2.out; omega) hb3
  have HB02 := Lib.hid hb02
  have HB23 := Lib.hid hb23
  clear hb02 hb23 hc
  rcases hr with ⟨hr1, htk⟩ | ⟨j, hj, hr1, htk⟩
  · (
  subst hr1
  have hfin := HFIN.out false (by rw [HSAME.out, HDROP.out]; simp only [sameDots]; rw [htk])
  have H1 := Lib.hid hfin
  clear hfin htk
  go_wp2_with fail
  go_ret
  exact ⟨ret_b H1.out, HB02.out⟩)
  · (
  subst hr1
  have hgw : w3.heap[g]? = wo.heap[g]? := (hb3.block g (by have := HS2.out; omega)).trans (HBN.out.block g hglt)
  have C27 := Lib.hid (c27 W0.heap.size g (n1 - k) cap j (rowsD left).flatten w3 (ownsRow_keep HOWN.out hgw) hj (one_dots left))
  have HT := Lib.hid htk
  clear htk hgw
  have hj1 : (j : Int) ≤ 1000 := by omega
  go_wp2_with (first
   | (go_at_call 27; refine C27.out.mono ?_; rintro e w4 ⟨rfl, hown4, hb4⟩))
  go_roundw
  case rel => (
  refine ⟨k + 1, left.take j ++ left.drop (j + 1), by omega, by go_num, ?_, ?_, ?_, HB23.out.trans hb4, ?_⟩
  · rw [← rows_out, show n1 - (k + 1) = n1 - k - 1 by omega]; exact hown4
  · have := HLL.out; simp only [List.length_append, List.length_take, List.length_drop]; omega
  · (
  intro y hy
  rcases List.mem_append.1 hy with h | h
  · exact HSUB.out y (List.mem_of_mem_take h)
  · exact HSUB.out y (List.mem_of_mem_drop h))
  · rw [HSAME.out, HDROP.out]; simp only [sameDots]; rw [HT.out])
  case measure => simp [intOf]; omega))
  · (
  have hfin := HFIN.out true (by rw [hsame, List.drop_eq_nil_of_le (by omega)]; rfl)
  have H1 := Lib.hid hfin
  clear hfin hsame
  go_wp2_with fail
  go_ret
  exact ⟨ret_b H1.out, below_then HB0.out HB0.out.size hb⟩)))
end
section
/-! ### Matching one to one, by taking the first that fits -/
section Matching
variable {α : Type}
def takeP (q : α → Bool) : List α → Option (List α)
 | [] => none
 | y :: r => if q y then some r else (takeP q r).map (y :: ·)
def greedy (p : α → α → Bool) : List α → List α → Bool
 | [], _ => true
 | x :: xs, l => match takeP (p x) l with | none => false | some r => greedy p xs r
inductive All2 (p : α → α → Bool) : List α → List α → Prop
 | nil : All2 p [] []
 | cons {x y xs ys} : p x y = true → All2 p xs ys → All2 p (x :: xs) (y :: ys)
theorem takeP_some {q : α → Bool} : ∀ {l r : List α}, takeP q l = some r → ∃ y, y ∈ l ∧ q y = true ∧ (y :: r).Perm l
 | [], r, h => by simp [takeP] at h
 | y :: t, r, h => by
  by_cases hy : q y = true
  · (
  simp [takeP, hy] at h
  subst h
  exact ⟨y, by simp, hy, List.Perm.refl _⟩)
  · (
  simp only [takeP, hy] at h
  simp only [Bool.false_eq_true, if_false, Option.map_eq_some_iff] at h
  obtain ⟨r', h', rfl⟩ := h
  obtain ⟨z, hz, hq, hp⟩ := takeP_some h'
  exact ⟨z, by simp [hz], hq, (List.Perm.swap y z r').trans (hp.cons y)⟩)
theorem takeP_none {q : α → Bool} : ∀ {l : List α}, takeP q l = none → ∀ y ∈ l, q y = false
 | [], _, y, hy => by simp at hy
 | z :: t, h, y, hy => by
  by_cases hz : q z = true
  · simp [takeP, hz] at h
  · (
  simp only [takeP, hz] at h
  simp only [Bool.false_eq_true, if_false, Option.map_eq_none_iff] at h
  rcases List.mem_cons.1 hy with rfl | hy
  · simpa using hz
  · exact takeP_none h y hy)
theorem All2.len {p : α → α → Bool} {xs ys : List α} (h : All2 p xs ys) : xs.length = ys.length := by
 induction h with
 | nil => rfl
 | cons _ _ ih => simp [ih]
theorem All2.split {p : α → α → Bool} : ∀ {xs l r : List α} {y : α}, All2 p xs (l ++ y :: r) → ∃ a x b, xs = a ++ x :: b ∧ p x y = true ∧ All2 p a l ∧ All2 p b r
 | [], l, r, y, h => by cases l <;> cases h
 | x :: xs, [], r, y, h => by cases h with | cons h1 h2 => exact ⟨[], x, xs, rfl, h1, .nil, h2⟩
 | x :: xs, z :: l, r, y, h => by
  cases h with
  | cons h1 h2 =>
   obtain ⟨a, x', b, rfl, h3, h4, h5⟩ := All2.split h2
   exact ⟨x :: a, x', b, rfl, h3, .cons h1 h4, h5⟩
theorem All2.app {p : α → α → Bool} {a l b r : List α} (h : All2 p a l) (k : All2 p b r) : All2 p (a ++ b) (l ++ r) := by
 induction h with
 | nil => exact k
 | cons h1 _ ih => exact .cons h1 ih
/-- A relation that is difunctional on what stands in two lists. -/
def Dif (p : α → α → Bool) (xs ys : List α) : Prop := ∀ x ∈ xs, ∀ x' ∈ xs, ∀ y ∈ ys, ∀ y' ∈ ys, p x y = true → p x' y = true → p x y' = true → p x' y' = true
theorem greedy_sound {p : α → α → Bool} : ∀ {xs ys : List α}, greedy p xs ys = true → ∃ zs rest, (zs ++ rest).Perm ys ∧ All2 p xs zs
 | [], ys, _ => ⟨[], ys, List.Perm.refl _, .nil⟩
 | x :: xs, ys, h => by
  unfold greedy at h
  split at h
  · cases h
  · (
  rename_i r hr
  obtain ⟨y, hy, hq, hp⟩ := takeP_some hr
  obtain ⟨zs, rest, h1, h2⟩ := greedy_sound h
  exact ⟨y :: zs, rest, (h1.cons y).trans hp, .cons hq h2⟩)
theorem greedy_complete {p : α → α → Bool} : ∀ {xs ys : List α}, Dif p xs ys → (∃ zs rest, (zs ++ rest).Perm ys ∧ All2 p xs zs) → greedy p xs ys = true
 | [], ys, _, _ => rfl
 | x :: xs, ys, hd, ⟨zs, rest, hp, h2⟩ => by
  cases h2 with
  | @cons _ z _ zs h1 h2 =>
  have hz : z ∈ ys := hp.subset (by simp)
  unfold greedy
  split
  · rename_i hn
    exact absurd (takeP_none hn z hz) (by rw [h1]; decide)
  · (
  rename_i r hr
  obtain ⟨y, hy, hq, hyr⟩ := takeP_some hr
  have hr' : ∀ u ∈ r, u ∈ ys := fun u hu => hyr.subset (List.mem_cons_of_mem _ hu)
  refine greedy_complete (fun a ha b hb c hc d hd' => hd a (by simp [ha]) b (by simp [hb]) c (hr' c hc) d (hr' d hd')) ?_
  -- y :: r ~ z :: (zs ++ rest)
  have hyz : (y :: r).Perm (z :: (zs ++ rest)) := hyr.trans (by simpa using hp.symm)
  have hym : y ∈ z :: (zs ++ rest) := hyz.subset (by simp)
  rcases List.mem_cons.1 hym with rfl | hym
  · exact ⟨zs, rest, (List.Perm.cons_inv hyz).symm, h2⟩
  · (
  rcases List.mem_append.1 hym with hy1 | hy1
  · (
  obtain ⟨l, r2, rfl⟩ := List.append_of_mem hy1
  obtain ⟨a, x', b, rfl, g1, g2, g3⟩ := h2.split
  have hx' : p x' z = true := hd x (by simp) x' (by simp) y hy z hz hq g1 h1
  refine ⟨l ++ z :: r2, rest, ?_, g2.app (.cons hx' g3)⟩
  have e1 : (z :: (l ++ y :: r2 ++ rest)).Perm (y :: (l ++ z :: r2 ++ rest)) := by
   have : (z :: (l ++ y :: r2 ++ rest)).Perm (z :: y :: (l ++ r2 ++ rest)) := by
    refine List.Perm.cons z ?_
    simp only [List.append_assoc, List.cons_append]
    exact List.perm_middle
   refine this.trans ((List.Perm.swap y z _).trans (List.Perm.cons y ?_))
   simp only [List.append_assoc, List.cons_append]
   exact List.perm_middle.symm
  exact (List.Perm.cons_inv (hyz.trans e1)).symm)
  · (
  obtain ⟨l, r2, rfl⟩ := List.append_of_mem hy1
  refine ⟨zs, l ++ z :: r2, ?_, h2⟩
  have e1 : (z :: (zs ++ (l ++ y :: r2))).Perm (y :: (zs ++ (l ++ z :: r2))) := by
   have : (z :: (zs ++ (l ++ y :: r2))).Perm (z :: y :: (zs ++ l ++ r2)) := by
    refine List.Perm.cons z ?_
    rw [← List.append_assoc]
    exact List.perm_middle
   refine this.trans ((List.Perm.swap y z _).trans (List.Perm.cons y ?_))
   rw [← List.append_assoc zs l (z :: r2)]
   exact List.perm_middle.symm
  exact (List.Perm.cons_inv (hyz.trans e1)).symm)))
theorem All2.perm {p : α → α → Bool} {ys zs : List α} (hp : ys.Perm zs) : ∀ {xs : List α}, All2 p xs ys → ∃ xs', xs.Perm xs' ∧ All2 p xs' zs := by
 induction hp with
 | nil => intro xs h; exact ⟨xs, List.Perm.refl _, h⟩
 | cons y _ ih =>
  intro xs h
  cases h with
  | cons h1 h2 =>
   obtain ⟨xs', hp', h'⟩ := ih h2
   exact ⟨_ :: xs', hp'.cons _, .cons h1 h'⟩
 | swap a b l =>
  intro xs h
  cases h with
  | cons h1 h2 =>
   cases h2 with
   | cons h3 h4 => exact ⟨_, List.Perm.swap _ _ _, .cons h3 (.cons h1 h4)⟩
 | trans _ _ ih1 ih2 =>
  intro xs h
  obtain ⟨x1, hp1, h1⟩ := ih1 h
  obtain ⟨x2, hp2, h2⟩ := ih2 h1
  exact ⟨x2, hp1.trans hp2, h2⟩
theorem All2.flip {p p' : α → α → Bool} {xs ys : List α} (h : All2 p xs ys) (hf : ∀ x ∈ xs, ∀ y ∈ ys, p x y = true → p' y x = true) : All2 p' ys xs := by
 induction h with
 | nil => exact .nil
 | cons h1 _ ih => exact .cons (hf _ (by simp) _ (by simp) h1) (ih fun x hx y hy => hf x (by simp [hx]) y (by simp [hy]))
theorem All2.mono {p p' : α → α → Bool} {xs ys : List α} (h : All2 p xs ys) (hf : ∀ x ∈ xs, ∀ y ∈ ys, p x y = true → p' x y = true) : All2 p' xs ys := by
 induction h with
 | nil => exact .nil
 | cons h1 _ ih => exact .cons (hf _ (by simp) _ (by simp) h1) (ih fun x hx y hy => hf x (by simp [hx]) y (by simp [hy]))
theorem perm_full {zs rest ys : List α} (h : (zs ++ rest).Perm ys) (hl : zs.length = ys.length) : zs.Perm ys := by
 have := h.length_eq
 rw [List.length_append] at this
 have : rest = [] := List.eq_nil_of_length_eq_zero (by omega)
 subst this
 simpa using h
/-- Greedy matching tells whether there is a matching, if the lists are of one length. -/
theorem greedy_iff {p : α → α → Bool} {xs ys : List α} (hl : xs.length = ys.length) (hd : Dif p xs ys) : greedy p xs ys = true ↔ ∃ zs, zs.Perm ys ∧ All2 p xs zs := by
 constructor
 · (
 intro h
 obtain ⟨zs, rest, h1, h2⟩ := greedy_sound h
 exact ⟨zs, perm_full h1 (by rw [← h2.len, hl]), h2⟩)
 · rintro ⟨zs, h1, h2⟩
   exact greedy_complete hd ⟨zs, [], by simpa using h1, h2⟩
theorem greedy_flip {p p' : α → α → Bool} {xs ys : List α} (hl : xs.length = ys.length) (hd : Dif p xs ys) (hd' : Dif p' ys xs) (hf : ∀ x ∈ xs, ∀ y ∈ ys, p x y = p' y x) : greedy p xs ys = greedy p' ys xs := by
 have key : ∀ {p p' : α → α → Bool} {xs ys : List α}, xs.length = ys.length → Dif p' ys xs → (∀ x ∈ xs, ∀ y ∈ ys, p x y = p' y x) → greedy p xs ys = true → greedy p' ys xs = true := by
  intro p p' xs ys hl hd' hf h
  obtain ⟨zs, rest, h1, h2⟩ := greedy_sound h
  have h3 := perm_full h1 (by rw [← h2.len, hl])
  obtain ⟨xs', g1, g2⟩ := All2.perm h3 h2
  refine (greedy_iff hl.symm hd').2 ⟨xs', g1.symm, g2.flip fun x hx y hy hxy => ?_⟩
  rw [← hf x (g1.symm.subset hx) y hy]
  exact hxy
 rw [Bool.eq_iff_iff]
 exact ⟨key hl hd' hf, key hl.symm hd fun x hx y hy => (hf y hy x hx).symm⟩
theorem greedy_mono {p p' : α → α → Bool} {xs ys : List α} (hl : xs.length = ys.length) (hd' : Dif p' xs ys) (hf : ∀ x ∈ xs, ∀ y ∈ ys, p x y = true → p' x y = true) (h : greedy p xs ys = true) : greedy p' xs ys = true := by
 obtain ⟨zs, rest, h1, h2⟩ := greedy_sound h
 have h3 := perm_full h1 (by rw [← h2.len, hl])
 exact (greedy_iff hl hd').2 ⟨zs, h3, h2.mono fun x hx y hy => hf x hx y (h3.subset hy)⟩
end Matching
/-! ### diffSlices: marks of what is taken -/
section Diff
variable {α : Type}
def pick (q : α → Bool) : List α → List Bool → Option (List Bool)
 | y :: ys, v :: vs => if !v && q y then some (true :: vs) else (pick q ys vs).map (v :: ·)
 | _, _ => none
def unmarked : List α → List Bool → List α
 | y :: ys, v :: vs => if v then unmarked ys vs else y :: unmarked ys vs
 | _, _ => []
def marks (p : α → α → Bool) : List α → List α → List Bool → Bool × List Bool
 | [], _, vs => (true, vs)
 | x :: xs, ys, vs => match pick (p x) ys vs with | none => (false, (marks p xs ys vs).2) | some vs' => marks p xs ys vs'
theorem pick_takeP (q : α → Bool) : ∀ (ys : List α) (vs : List Bool), takeP q (unmarked ys vs) = (pick q ys vs).map (unmarked ys ·)
 | [], vs => by simp [unmarked, pick, takeP]
 | y :: ys, [] => by simp [unmarked, pick, takeP]
 | y :: ys, v :: vs => by
  have ih := pick_takeP q ys vs
  cases v with
  | true =>
   simp only [unmarked, pick, if_true, Bool.not_true, Bool.false_and, Bool.false_eq_true, if_false, ih, Option.map_map]
   congr 1
  | false =>
   by_cases hy : q y = true
   · simp [unmarked, pick, takeP, hy]
   · simp only [unmarked, pick, takeP, hy, Bool.false_eq_true, if_false, Bool.not_false, Bool.and_false, ih, Option.map_map]
     congr 1
def trues : List Bool → Nat
 | [] => 0
 | v :: vs => (if v then 1 else 0) + trues vs
theorem pick_trues (q : α → Bool) : ∀ (ys : List α) (vs vs' : List Bool), pick q ys vs = some vs' → trues vs' = trues vs + 1 ∧ vs'.length = vs.length
 | [], vs, vs', h => by simp [pick] at h
 | y :: ys, [], vs', h => by simp [pick] at h
 | y :: ys, v :: vs, vs', h => by
  unfold pick at h
  split at h
  · (
  rename_i hc
  simp at h
  subst h
  cases v
  · simp [trues]; omega
  · simp at hc)
  · (
  simp only [Option.map_eq_some_iff] at h
  obtain ⟨v2, h2, rfl⟩ := h
  have := pick_trues q ys vs v2 h2
  simp only [trues, this, List.length_cons]
  exact ⟨by omega, trivial⟩)
theorem marks_len (p : α → α → Bool) : ∀ (xs ys : List α) (vs : List Bool), (marks p xs ys vs).2.length = vs.length
 | [], ys, vs => rfl
 | x :: xs, ys, vs => by
  unfold marks
  split
  · exact marks_len p xs ys vs
  · rename_i vs' h
    rw [marks_len p xs ys vs', (pick_trues _ _ _ _ h).2]
theorem marks_greedy (p : α → α → Bool) : ∀ (xs ys : List α) (vs : List Bool), (marks p xs ys vs).1 = greedy p xs (unmarked ys vs)
 | [], ys, vs => rfl
 | x :: xs, ys, vs => by
  unfold marks greedy
  rw [pick_takeP]
  split
  · rename_i h; simp [h]
  · (
  rename_i vs' h
  simp only [h, Option.map_some]
  exact marks_greedy p xs ys vs')
theorem marks_trues (p : α → α → Bool) : ∀ (xs ys : List α) (vs : List Bool), (marks p xs ys vs).1 = true → trues (marks p xs ys vs).2 = trues vs + xs.length
 | [], ys, vs, _ => rfl
 | x :: xs, ys, vs, h => by
  unfold marks at h ⊢
  split at h
  · cases h
  · (
  rename_i vs' h'
  skip
  rw [marks_trues p xs ys vs' h, (pick_trues _ _ _ _ h').1, List.length_cons]
  omega)
theorem trues_le : ∀ (vs : List Bool), trues vs ≤ vs.length
 | [] => Nat.le_refl _
 | v :: vs => by have := trues_le vs; cases v <;> simp [trues] <;> omega
theorem trues_all : ∀ (vs : List Bool), vs.all id = true ↔ trues vs = vs.length
 | [] => by simp [trues]
 | v :: vs => by
  have := trues_all vs
  have h2 := trues_le vs
  rw [List.all_cons, Bool.and_eq_true, this]
  cases v
  · simp only [id, Bool.false_eq_true, false_and, false_iff, trues, if_false, List.length_cons]; omega
  · simp only [id, true_and, trues, if_true, List.length_cons]; omega
theorem unmarked_none : ∀ (ys : List α), unmarked ys (List.replicate ys.length false) = ys
 | [] => rfl
 | y :: ys => by simp [unmarked, List.replicate_succ, unmarked_none ys]
theorem trues_none : ∀ (n : Nat), trues (List.replicate n false) = 0
 | 0 => rfl
 | n + 1 => by simp [List.replicate_succ, trues, trues_none n]
/-- What diffSlices tells: all of the one list are found, and all of the other are marked. -/
def diffSame (p : α → α → Bool) (xs ys : List α) : Bool := (marks p xs ys (List.replicate ys.length false)).1 && (marks p xs ys (List.replicate ys.length false)).2.all id
theorem diffSame_eq (p : α → α → Bool) (xs ys : List α) : diffSame p xs ys = (xs.length == ys.length && greedy p xs ys) := by
 have h1 := marks_greedy p xs ys (List.replicate ys.length false)
 have h2 := marks_trues p xs ys (List.replicate ys.length false)
 have h3 := marks_len p xs ys (List.replicate ys.length false)
 have h4 := trues_all (marks p xs ys (List.replicate ys.length false)).2
 rw [unmarked_none] at h1
 rw [trues_none] at h2
 rw [List.length_replicate] at h3
 unfold diffSame
 rw [h1] at h2 ⊢
 rw [Bool.eq_iff_iff, Bool.and_eq_true, Bool.and_eq_true, h4, h3, beq_iff_eq]
 constructor
 · (
 rintro ⟨g, e⟩
 have := h2 g
 exact ⟨by omega, g⟩)
 · (
 rintro ⟨e, g⟩
 have := h2 g
 exact ⟨g, by omega⟩)
theorem pick_none_of {q : α → Bool} : ∀ {ys : List α} {vs : List Bool}, (∀ (i : Nat) (y : α), ys[i]? = some y → vs[i]? = some true ∨ q y = false) → pick q ys vs = none
 | [], _, _ => by simp [pick]
 | y :: ys, [], h => by simp [pick]
 | y :: ys, v :: vs, h => by
  have h0 := h 0 y rfl
  have ih := pick_none_of (q := q) (ys := ys) (vs := vs) fun i z hz => by simpa using h (i + 1) z (by simpa using hz)
  simp at h0
  unfold pick
  rw [ih]
  rcases h0 with rfl | h0 <;> simp [*]
theorem pick_some_of {q : α → Bool} : ∀ {ys : List α} {vs : List Bool} {j : Nat} {y : α}, ys[j]? = some y → vs[j]? = some false → q y = true → (∀ (i : Nat) (z : α), i < j → ys[i]? = some z → vs[i]? = some true ∨ q z = false) → pick q ys vs = some (vs.set j true)
 | [], _, _, _, h, _, _, _ => by simp at h
 | y :: ys, [], _, _, _, h, _, _ => by simp at h
 | y :: ys, v :: vs, 0, z, h1, h2, h3, _ => by
  simp at h1 h2
  subst h1
  subst h2
  simp [pick, h3]
 | y :: ys, v :: vs, j + 1, z, h1, h2, h3, h4 => by
  have h0 := h4 0 y (by omega) rfl
  have ih := pick_some_of (q := q) (ys := ys) (vs := vs) (j := j) (y := z) (by simpa using h1) (by simpa using h2) h3 fun i u hi hu => by simpa using h4 (i + 1) u (by omega) (by simpa using hu)
  simp at h0
  unfold pick
  rw [ih]
  rcases h0 with rfl | h0 <;> simp [*]
end Diff
/-! ### Equality of floating point numbers -/
def datEq (x y : Ieee.Datum) : Bool := x.order y == some .eq
theorem signed_eq (s : Bool) (m k : Nat) : Ieee.signed s m k = (if s then -(m : Int) else m) * (2 : Int) ^ k := by
 unfold Ieee.signed
 rw [Nat.shiftLeft_eq]
 cases s <;> simp [Int.natCast_mul, Int.natCast_pow, Int.neg_mul]
theorem num_eq_iff (s t : Bool) (m n : Nat) (i j b : Int) (hi : b ≤ i) (hj : b ≤ j) :
 datEq (.number s m i) (.number t n j) = true ↔ Ieee.signed s m (i - b).toNat = Ieee.signed t n (j - b).toNat := by
 have hcmp : ∀ (a c : Int), (some (compare a c) == some Ordering.eq) = true ↔ a = c := by
  intro a c
  rw [beq_iff_eq, Option.some.injEq]
  exact Int.compare_eq_eq
 show (some (compare (Ieee.signed s m (i - min i j).toNat) (Ieee.signed t n (j - min i j).toNat)) == some Ordering.eq) = true ↔ _
 rw [hcmp]
 have e1 : (i - b).toNat = (i - min i j).toNat + (min i j - b).toNat := by omega
 have e2 : (j - b).toNat = (j - min i j).toNat + (min i j - b).toNat := by omega
 rw [e1, e2]
 simp only [signed_eq, Int.pow_add, ← Int.mul_assoc]
 have hp : (2 : Int) ^ (min i j - b).toNat ≠ 0 := Int.pow_ne_zero (by decide)
 constructor
 · intro h; rw [h]
 · intro h; exact Int.eq_of_mul_eq_mul_right hp h
theorem datEq_symm (x y : Ieee.Datum) : datEq x y = datEq y x := by
 have key : ∀ x y, datEq x y = true → datEq y x = true := by
  intro x y h
  match x, y with
  | .nan .., _ => simp [datEq, Ieee.Datum.order] at h
  | .number .., .nan .. => simp [datEq, Ieee.Datum.order] at h
  | .infinity .., .nan .. => simp [datEq, Ieee.Datum.order] at h
  | .infinity s, .infinity t => revert h; cases s <;> cases t <;> decide
  | .infinity s, .number .. => simp [datEq, Ieee.Datum.order] at h; split at h <;> simp at h
  | .number .., .infinity s => simp [datEq, Ieee.Datum.order] at h; split at h <;> simp at h
  | .number s m i, .number t n j =>
   rw [num_eq_iff s t m n i j (min i j) (by omega) (by omega)] at h
   rw [num_eq_iff t s n m j i (min i j) (by omega) (by omega)]
   exact h.symm
 rw [Bool.eq_iff_iff]
 exact ⟨key x y, key y x⟩
theorem datEq_trans {x y z : Ieee.Datum} (h : datEq x y = true) (k : datEq y z = true) : datEq x z = true := by
 match x, y, z with
 | .nan .., _, _ => simp [datEq, Ieee.Datum.order] at h
 | .number .., .nan .., _ => simp [datEq, Ieee.Datum.order] at h
 | .infinity .., .nan .., _ => simp [datEq, Ieee.Datum.order] at h
 | _, .number .., .nan .. => simp [datEq, Ieee.Datum.order] at k
 | _, .infinity .., .nan .. => simp [datEq, Ieee.Datum.order] at k
 | .infinity s, .number .., _ => simp [datEq, Ieee.Datum.order] at h; split at h <;> simp at h
 | .number .., .infinity s, _ => simp [datEq, Ieee.Datum.order] at h; split at h <;> simp at h
 | _, .infinity s, .number .. => simp [datEq, Ieee.Datum.order] at k; split at k <;> simp at k
 | _, .number .., .infinity s => simp [datEq, Ieee.Datum.order] at k; split at k <;> simp at k
 | .infinity s, .infinity t, .infinity u => revert h k; cases s <;> cases t <;> cases u <;> decide
 | .number s m i, .number t n j, .number u o l =>
  have b1 : min i (min j l) ≤ i := by omega
  have b2 : min i (min j l) ≤ j := by omega
  have b3 : min i (min j l) ≤ l := by omega
  rw [num_eq_iff s t m n i j _ b1 b2] at h
  rw [num_eq_iff t u n o j l _ b2 b3] at k
  rw [num_eq_iff s u m o i l _ b1 b3]
  exact h.trans k
theorem feq_symm (a b : Nat) : Op.floatEq .f64 a b = Op.floatEq .f64 b a := datEq_symm _ _
theorem feq_trans {a b c : Nat} (h : Op.floatEq .f64 a b = true) (k : Op.floatEq .f64 b c = true) : Op.floatEq .f64 a c = true := datEq_trans h k
end
end Go.Proofs.YtlpddogcnpokfaaGreatDoor
