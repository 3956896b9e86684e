/- Contracts of functions of the program, for the comparison of aggregations (part KCl). -/
import Derived.Test.YtlpddogcnpokfaaGreatDoorKEqdp
import Derived.Test.YtlpddogcnpokfaaGreatDoorKEqhi
import Derived.Test.YtlpddogcnpokfaaGreatDoorKEqhf
import Derived.Test.YtlpddogcnpokfaaGreatDoorKEqei
import Derived.Test.YtlpddogcnpokfaaGreatDoorKEqef
import Derived.Test.YtlpddogcnpokfaaGreatDoorKDf0
set_option linter.all false
namespace Go.Proofs.YtlpddogcnpokfaaGreatDoor
open Go.RowKit
theorem info101 : (Tryz.prog.info? 101).map (·.size) = some 2 := by kernel_rfl
def dpI (q : Dot × Sl5) : List Value := [.int .u64 (hashL q.1.attrs), .slice q.2.a.A q.2.a.n q.2.a.c, .int .i64 q.1.start, .int .i64 q.1.time, .int .i64 q.1.value, .slice none 0 0]
def dpIEq (it iv : Bool) (q r : Dot × Sl5) : Bool := ((listEq keq q.1.attrs r.1.attrs && (it || (q.1.start == r.1.start && q.1.time == r.1.time))) && (iv || (dVal false q.1.value r.1.value)))
theorem dpI_len (q : Dot × Sl5) : (dpI q).length = 6 := rfl
theorem dpI_one (q : Dot × Sl5) : ∀ u ∈ dpI q, u.oneCell' = true := by
 intro u hu
 unfold dpI at hu
 simp only [List.mem_cons, List.not_mem_nil, or_false] at hu
 rcases hu with rfl | rfl | rfl | rfl | rfl | rfl <;> rfl
def dpF (q : Dot × Sl5) : List Value := [.int .u64 (hashL q.1.attrs), .slice q.2.a.A q.2.a.n q.2.a.c, .int .i64 q.1.start, .int .i64 q.1.time, .float .f64 (q.1.value).toNat, .slice none 0 0]
def dpFEq (it iv : Bool) (q r : Dot × Sl5) : Bool := ((listEq keq q.1.attrs r.1.attrs && (it || (q.1.start == r.1.start && q.1.time == r.1.time))) && (iv || (dVal true q.1.value r.1.value)))
theorem dpF_len (q : Dot × Sl5) : (dpF q).length = 6 := rfl
theorem dpF_one (q : Dot × Sl5) : ∀ u ∈ dpF q, u.oneCell' = true := by
 intro u hu
 unfold dpF at hu
 simp only [List.mem_cons, List.not_mem_nil, or_false] at hu
 rcases hu with rfl | rfl | rfl | rfl | rfl | rfl <;> rfl
def hpI (q : Dot × Sl5) : List Value := [.int .u64 (hashL q.1.attrs), .slice q.2.a.A q.2.a.n q.2.a.c, .int .i64 q.1.start, .int .i64 q.1.time, .int .u64 q.1.count, .slice q.2.b.A q.2.b.n q.2.b.c, .slice q.2.k.A q.2.k.n q.2.k.c, .int .i64 q.1.min, .bool q.1.hasMin, .int .i64 q.1.max, .bool q.1.hasMax, .int .i64 q.1.sum, .slice none 0 0]
def hpIEq (it iv : Bool) (q r : Dot × Sl5) : Bool := ((listEq keq q.1.attrs r.1.attrs && (it || (q.1.start == r.1.start && q.1.time == r.1.time))) && (iv || ((((((q.1.count == r.1.count) && (listEq (dVal true) q.1.bounds r.1.bounds)) && (listEq (fun a b : Int => a == b) q.1.buckets r.1.buckets)) && (dExt false q.1.hasMin r.1.hasMin q.1.min r.1.min)) && (dExt false q.1.hasMax r.1.hasMax q.1.max r.1.max)) && (dVal false q.1.sum r.1.sum))))
theorem hpI_len (q : Dot × Sl5) : (hpI q).length = 13 := rfl
theorem hpI_one (q : Dot × Sl5) : ∀ u ∈ hpI q, u.oneCell' = true := by
 intro u hu
 unfold hpI at hu
 simp only [List.mem_cons, List.not_mem_nil, or_false] at hu
 rcases hu with rfl | rfl | rfl | rfl | rfl | rfl | rfl | rfl | rfl | rfl | rfl | rfl | rfl <;> rfl
def hpF (q : Dot × Sl5) : List Value := [.int .u64 (hashL q.1.attrs), .slice q.2.a.A q.2.a.n q.2.a.c, .int .i64 q.1.start, .int .i64 q.1.time, .int .u64 q.1.count, .slice q.2.b.A q.2.b.n q.2.b.c, .slice q.2.k.A q.2.k.n q.2.k.c, .float .f64 (q.1.min).toNat, .bool q.1.hasMin, .float .f64 (q.1.max).toNat, .bool q.1.hasMax, .float .f64 (q.1.sum).toNat, .slice none 0 0]
def hpFEq (it iv : Bool) (q r : Dot × Sl5) : Bool := ((listEq keq q.1.attrs r.1.attrs && (it || (q.1.start == r.1.start && q.1.time == r.1.time))) && (iv || ((((((q.1.count == r.1.count) && (listEq (dVal true) q.1.bounds r.1.bounds)) && (listEq (fun a b : Int => a == b) q.1.buckets r.1.buckets)) && (dExt true q.1.hasMin r.1.hasMin q.1.min r.1.min)) && (dExt true q.1.hasMax r.1.hasMax q.1.max r.1.max)) && (dVal true q.1.sum r.1.sum))))
theorem hpF_len (q : Dot × Sl5) : (hpF q).length = 13 := rfl
theorem hpF_one (q : Dot × Sl5) : ∀ u ∈ hpF q, u.oneCell' = true := by
 intro u hu
 unfold hpF at hu
 simp only [List.mem_cons, List.not_mem_nil, or_false] at hu
 rcases hu with rfl | rfl | rfl | rfl | rfl | rfl | rfl | rfl | rfl | rfl | rfl | rfl | rfl <;> rfl
def epI (q : Dot × Sl5) : List Value := [.int .u64 (hashL q.1.attrs), .slice q.2.a.A q.2.a.n q.2.a.c, .int .i64 q.1.start, .int .i64 q.1.time, .int .u64 q.1.count, .int .i64 q.1.min, .bool q.1.hasMin, .int .i64 q.1.max, .bool q.1.hasMax, .int .i64 q.1.sum, .int .i32 q.1.scale, .int .u64 q.1.zero, .int .i32 q.1.posOff, .slice q.2.p.A q.2.p.n q.2.p.c, .int .i32 q.1.negOff, .slice q.2.n.A q.2.n.n q.2.n.c, .float .f64 0, .slice none 0 0]
def epIEq (it iv : Bool) (q r : Dot × Sl5) : Bool := ((listEq keq q.1.attrs r.1.attrs && (it || (q.1.start == r.1.start && q.1.time == r.1.time))) && (iv || ((((((((q.1.count == r.1.count) && (dExt false q.1.hasMin r.1.hasMin q.1.min r.1.min)) && (dExt false q.1.hasMax r.1.hasMax q.1.max r.1.max)) && (dVal false q.1.sum r.1.sum)) && (q.1.scale == r.1.scale)) && (q.1.zero == r.1.zero)) && ((q.1.posOff == r.1.posOff && listEq (fun a b : Int => a == b) q.1.pos r.1.pos))) && ((q.1.negOff == r.1.negOff && listEq (fun a b : Int => a == b) q.1.neg r.1.neg)))))
theorem epI_len (q : Dot × Sl5) : (epI q).length = 18 := rfl
theorem epI_one (q : Dot × Sl5) : ∀ u ∈ epI q, u.oneCell' = true := by
 intro u hu
 unfold epI at hu
 simp only [List.mem_cons, List.not_mem_nil, or_false] at hu
 rcases hu with rfl | rfl | rfl | rfl | rfl | rfl | rfl | rfl | rfl | rfl | rfl | rfl | rfl | rfl | rfl | rfl | rfl | rfl <;> rfl
def epF (q : Dot × Sl5) : List Value := [.int .u64 (hashL q.1.attrs), .slice q.2.a.A q.2.a.n q.2.a.c, .int .i64 q.1.start, .int .i64 q.1.time, .int .u64 q.1.count, .float .f64 (q.1.min).toNat, .bool q.1.hasMin, .float .f64 (q.1.max).toNat, .bool q.1.hasMax, .float .f64 (q.1.sum).toNat, .int .i32 q.1.scale, .int .u64 q.1.zero, .int .i32 q.1.posOff, .slice q.2.p.A q.2.p.n q.2.p.c, .int .i32 q.1.negOff, .slice q.2.n.A q.2.n.n q.2.n.c, .float .f64 0, .slice none 0 0]
def epFEq (it iv : Bool) (q r : Dot × Sl5) : Bool := ((listEq keq q.1.attrs r.1.attrs && (it || (q.1.start == r.1.start && q.1.time == r.1.time))) && (iv || ((((((((q.1.count == r.1.count) && (dExt true q.1.hasMin r.1.hasMin q.1.min r.1.min)) && (dExt true q.1.hasMax r.1.hasMax q.1.max r.1.max)) && (dVal true q.1.sum r.1.sum)) && (q.1.scale == r.1.scale)) && (q.1.zero == r.1.zero)) && ((q.1.posOff == r.1.posOff && listEq (fun a b : Int => a == b) q.1.pos r.1.pos))) && ((q.1.negOff == r.1.negOff && listEq (fun a b : Int => a == b) q.1.neg r.1.neg)))))
theorem epF_len (q : Dot × Sl5) : (epF q).length = 18 := rfl
theorem epF_one (q : Dot × Sl5) : ∀ u ∈ epF q, u.oneCell' = true := by
 intro u hu
 unfold epF at hu
 simp only [List.mem_cons, List.not_mem_nil, or_false] at hu
 rcases hu with rfl | rfl | rfl | rfl | rfl | rfl | rfl | rfl | rfl | rfl | rfl | rfl | rfl | rfl | rfl | rfl | rfl | rfl <;> rfl
theorem k100 (q r : Dot × Sl5) (it iv : Bool) (bc : Nat) (w : World) (hq : PtR w w.heap.size q.1 q.2) (hr : PtR w w.heap.size r.1 r.2) (hT : Lib.Utf8Tabs 3 4 w) (hT4 : 4 < w.heap.size) (hbc : w.heap[bc]? = some (.cells #[.bool it, .bool iv] 101 (0, 0))) :
 Calls Tryz.prog 100 #[.agg (dpI q).toArray, .agg (dpI r).toArray, .pointer (some ⟨bc, 0, none⟩)] w fun e w' => ∃ A n c, e = .returned (.slice A n c) ∧ Below w.heap.size w w' ∧ (n = 0 ↔ dpIEq it iv q r = true) := by
 have C := Lib.hid fun (W : World) (hW : Below w.heap.size w W) => c101 q.1 r.1 q.2 r.2 it iv W ((hq.below hW).more hW.size) ((hr.below hW).more hW.size) (utf8_below hT hT4 hW) (Nat.lt_of_lt_of_le hT4 hW.size)
 obtain ⟨cx, hcx⟩ : ∃ cx, cx = (dpI q).toArray := ⟨_, rfl⟩
 obtain ⟨cy, hcy⟩ : ∃ cy, cy = (dpI r).toArray := ⟨_, rfl⟩
 have sx : cx.size = 6 := by rw [hcx]; rfl
 have sy : cy.size = 6 := by rw [hcy]; rfl
 rw [← hcx, ← hcy]
 have C2 : Hid (∀ W, Below w.heap.size w W → Calls Tryz.prog 101 #[.agg cx, .agg cy, .agg #[.bool it, .bool iv]] W fun e w' => ∃ v n, e = .returned v ∧ Rs W w' v n ∧ (n = 0 ↔ dpIEq it iv q r = true)) := Lib.hid fun W hW => by
  rw [hcx, hcy]
  refine (C.out W hW).mono ?_
  rintro e w' ⟨v, n, h1, h2, _, h4⟩
  exact ⟨v, n, h1, h2, h4⟩
 obtain ⟨W0, hW0⟩ : ∃ W0, W0 = (w.alloc (.cells cx 170)).alloc (.cells cy 170) := ⟨_, rfl⟩
 have hb : Below w.heap.size w W0 := by rw [hW0]; exact ((Below.refl _ _).alloc (Nat.le_refl _) _).alloc (by simp) _
 have z1 : W0.heap[w.heap.size]? = some (.cells cx 170 (0, 0)) := by rw [hW0, Below.heap_alloc _ _ _ (by simp)]; exact heap_alloc_new w _
 have z2 : W0.heap[w.heap.size + 1]? = some (.cells cy 170 (0, 0)) := by
  rw [hW0]
  have := heap_alloc_new (w.alloc (.cells cx 170)) (.cells cy 170)
  simpa using this
 have zc := (hb.block _ (Array.getElem?_eq_some_iff.1 hbc).1).trans hbc
 have HB := Lib.hid hb
 have HW := Lib.hid hW0
 have HSX := Lib.hid sx
 have HSY := Lib.hid sy
 clear hW0 hb hbc hcx hcy C hq hr hT sx sy
 go_enter Tryz.func100, Tryz.ntmps100
 go_upto_region 1 with fail
 rw [← HW.out]
 go_wp2_with (first
  | ((with_reducible refine arm_load_all 6 info170 Tryz.underlying170 z1 ?_ ?_ ?_ ?_); rfl; rfl; exact HSX.out)
  | ((with_reducible refine arm_load_all 6 info170 Tryz.underlying170 z2 ?_ ?_ ?_ ?_); rfl; rfl; exact HSY.out)
  | ((with_reducible refine arm_load_all 2 info101 Tryz.underlying101 zc ?_ ?_ ?_ ?_); rfl; rfl; rfl)
  | (go_at_call 101; (with_reducible refine (C2.out _ HB.out).mono ?_); rintro e w1 ⟨v, m, rfl, hrs, hiff⟩))
 go_ret
 obtain ⟨A, c, rfl⟩ := hrs.slice
 exact ⟨A, m, c, rfl, below_then HB.out HB.out.size hrs.bel, hiff⟩
theorem k107 (q r : Dot × Sl5) (it iv : Bool) (bc : Nat) (w : World) (hq : PtR w w.heap.size q.1 q.2) (hr : PtR w w.heap.size r.1 r.2) (hT : Lib.Utf8Tabs 3 4 w) (hT4 : 4 < w.heap.size) (hbc : w.heap[bc]? = some (.cells #[.bool it, .bool iv] 101 (0, 0))) :
 Calls Tryz.prog 107 #[.agg (dpI q).toArray, .agg (dpI r).toArray, .pointer (some ⟨bc, 0, none⟩)] w fun e w' => ∃ A n c, e = .returned (.slice A n c) ∧ Below w.heap.size w w' ∧ (n = 0 ↔ dpIEq it iv q r = true) := by
 have C := Lib.hid fun (W : World) (hW : Below w.heap.size w W) => c101 q.1 r.1 q.2 r.2 it iv W ((hq.below hW).more hW.size) ((hr.below hW).more hW.size) (utf8_below hT hT4 hW) (Nat.lt_of_lt_of_le hT4 hW.size)
 obtain ⟨cx, hcx⟩ : ∃ cx, cx = (dpI q).toArray := ⟨_, rfl⟩
 obtain ⟨cy, hcy⟩ : ∃ cy, cy = (dpI r).toArray := ⟨_, rfl⟩
 have sx : cx.size = 6 := by rw [hcx]; rfl
 have sy : cy.size = 6 := by rw [hcy]; rfl
 rw [← hcx, ← hcy]
 have C2 : Hid (∀ W, Below w.heap.size w W → Calls Tryz.prog 101 #[.agg cx, .agg cy, .agg #[.bool it, .bool iv]] W fun e w' => ∃ v n, e = .returned v ∧ Rs W w' v n ∧ (n = 0 ↔ dpIEq it iv q r = true)) := Lib.hid fun W hW => by
  rw [hcx, hcy]
  refine (C.out W hW).mono ?_
  rintro e w' ⟨v, n, h1, h2, _, h4⟩
  exact ⟨v, n, h1, h2, h4⟩
 obtain ⟨W0, hW0⟩ : ∃ W0, W0 = (w.alloc (.cells cx 170)).alloc (.cells cy 170) := ⟨_, rfl⟩
 have hb : Below w.heap.size w W0 := by rw [hW0]; exact ((Below.refl _ _).alloc (Nat.le_refl _) _).alloc (by simp) _
 have z1 : W0.heap[w.heap.size]? = some (.cells cx 170 (0, 0)) := by rw [hW0, Below.heap_alloc _ _ _ (by simp)]; exact heap_alloc_new w _
 have z2 : W0.heap[w.heap.size + 1]? = some (.cells cy 170 (0, 0)) := by
  rw [hW0]
  have := heap_alloc_new (w.alloc (.cells cx 170)) (.cells cy 170)
  simpa using this
 have zc := (hb.block _ (Array.getElem?_eq_some_iff.1 hbc).1).trans hbc
 have HB := Lib.hid hb
 have HW := Lib.hid hW0
 have HSX := Lib.hid sx
 have HSY := Lib.hid sy
 clear hW0 hb hbc hcx hcy C hq hr hT sx sy
 go_enter Tryz.func107, Tryz.ntmps107
 go_upto_region 1 with fail
 rw [← HW.out]
 go_wp2_with (first
  | ((with_reducible refine arm_load_all 6 info170 Tryz.underlying170 z1 ?_ ?_ ?_ ?_); rfl; rfl; exact HSX.out)
  | ((with_reducible refine arm_load_all 6 info170 Tryz.underlying170 z2 ?_ ?_ ?_ ?_); rfl; rfl; exact HSY.out)
  | ((with_reducible refine arm_load_all 2 info101 Tryz.underlying101 zc ?_ ?_ ?_ ?_); rfl; rfl; rfl)
  | (go_at_call 101; (with_reducible refine (C2.out _ HB.out).mono ?_); rintro e w1 ⟨v, m, rfl, hrs, hiff⟩))
 go_ret
 obtain ⟨A, c, rfl⟩ := hrs.slice
 exact ⟨A, m, c, rfl, below_then HB.out HB.out.size hrs.bel, hiff⟩
theorem k104 (q r : Dot × Sl5) (it iv : Bool) (bc : Nat) (w : World) (hq : PtR w w.heap.size q.1 q.2) (hr : PtR w w.heap.size r.1 r.2) (hT : Lib.Utf8Tabs 3 4 w) (hT4 : 4 < w.heap.size) (hbc : w.heap[bc]? = some (.cells #[.bool it, .bool iv] 101 (0, 0))) :
 Calls Tryz.prog 104 #[.agg (dpF q).toArray, .agg (dpF r).toArray, .pointer (some ⟨bc, 0, none⟩)] w fun e w' => ∃ A n c, e = .returned (.slice A n c) ∧ Below w.heap.size w w' ∧ (n = 0 ↔ dpFEq it iv q r = true) := by
 have C := Lib.hid fun (W : World) (hW : Below w.heap.size w W) => c105 q.1 r.1 q.2 r.2 it iv W ((hq.below hW).more hW.size) ((hr.below hW).more hW.size) (utf8_below hT hT4 hW) (Nat.lt_of_lt_of_le hT4 hW.size)
 obtain ⟨cx, hcx⟩ : ∃ cx, cx = (dpF q).toArray := ⟨_, rfl⟩
 obtain ⟨cy, hcy⟩ : ∃ cy, cy = (dpF r).toArray := ⟨_, rfl⟩
 have sx : cx.size = 6 := by rw [hcx]; rfl
 have sy : cy.size = 6 := by rw [hcy]; rfl
 rw [← hcx, ← hcy]
 have C2 : Hid (∀ W, Below w.heap.size w W → Calls Tryz.prog 105 #[.agg cx, .agg cy, .agg #[.bool it, .bool iv]] W fun e w' => ∃ v n, e = .returned v ∧ Rs W w' v n ∧ (n = 0 ↔ dpFEq it iv q r = true)) := Lib.hid fun W hW => by
  rw [hcx, hcy]
  refine (C.out W hW).mono ?_
  rintro e w' ⟨v, n, h1, h2, _, h4⟩
  exact ⟨v, n, h1, h2, h4⟩
 obtain ⟨W0, hW0⟩ : ∃ W0, W0 = (w.alloc (.cells cx 156)).alloc (.cells cy 156) := ⟨_, rfl⟩
 have hb : Below w.heap.size w W0 := by rw [hW0]; exact ((Below.refl _ _).alloc (Nat.le_refl _) _).alloc (by simp) _
 have z1 : W0.heap[w.heap.size]? = some (.cells cx 156 (0, 0)) := by rw [hW0, Below.heap_alloc _ _ _ (by simp)]; exact heap_alloc_new w _
 have z2 : W0.heap[w.heap.size + 1]? = some (.cells cy 156 (0, 0)) := by
  rw [hW0]
  have := heap_alloc_new (w.alloc (.cells cx 156)) (.cells cy 156)
  simpa using this
 have zc := (hb.block _ (Array.getElem?_eq_some_iff.1 hbc).1).trans hbc
 have HB := Lib.hid hb
 have HW := Lib.hid hW0
 have HSX := Lib.hid sx
 have HSY := Lib.hid sy
 clear hW0 hb hbc hcx hcy C hq hr hT sx sy
 go_enter Tryz.func104, Tryz.ntmps104
 go_upto_region 1 with fail
 rw [← HW.out]
 go_wp2_with (first
  | ((with_reducible refine arm_load_all 6 info156 Tryz.underlying156 z1 ?_ ?_ ?_ ?_); rfl; rfl; exact HSX.out)
  | ((with_reducible refine arm_load_all 6 info156 Tryz.underlying156 z2 ?_ ?_ ?_ ?_); rfl; rfl; exact HSY.out)
  | ((with_reducible refine arm_load_all 2 info101 Tryz.underlying101 zc ?_ ?_ ?_ ?_); rfl; rfl; rfl)
  | (go_at_call 105; (with_reducible refine (C2.out _ HB.out).mono ?_); rintro e w1 ⟨v, m, rfl, hrs, hiff⟩))
 go_ret
 obtain ⟨A, c, rfl⟩ := hrs.slice
 exact ⟨A, m, c, rfl, below_then HB.out HB.out.size hrs.bel, hiff⟩
theorem k109 (q r : Dot × Sl5) (it iv : Bool) (bc : Nat) (w : World) (hq : PtR w w.heap.size q.1 q.2) (hr : PtR w w.heap.size r.1 r.2) (hT : Lib.Utf8Tabs 3 4 w) (hT4 : 4 < w.heap.size) (hbc : w.heap[bc]? = some (.cells #[.bool it, .bool iv] 101 (0, 0))) :
 Calls Tryz.prog 109 #[.agg (dpF q).toArray, .agg (dpF r).toArray, .pointer (some ⟨bc, 0, none⟩)] w fun e w' => ∃ A n c, e = .returned (.slice A n c) ∧ Below w.heap.size w w' ∧ (n = 0 ↔ dpFEq it iv q r = true) := by
 have C := Lib.hid fun (W : World) (hW : Below w.heap.size w W) => c105 q.1 r.1 q.2 r.2 it iv W ((hq.below hW).more hW.size) ((hr.below hW).more hW.size) (utf8_below hT hT4 hW) (Nat.lt_of_lt_of_le hT4 hW.size)
 obtain ⟨cx, hcx⟩ : ∃ cx, cx = (dpF q).toArray := ⟨_, rfl⟩
 obtain ⟨cy, hcy⟩ : ∃ cy, cy = (dpF r).toArray := ⟨_, rfl⟩
 have sx : cx.size = 6 := by rw [hcx]; rfl
 have sy : cy.size = 6 := by rw [hcy]; rfl
 rw [← hcx, ← hcy]
 have C2 : Hid (∀ W, Below w.heap.size w W → Calls Tryz.prog 105 #[.agg cx, .agg cy, .agg #[.bool it, .bool iv]] W fun e w' => ∃ v n, e = .returned v ∧ Rs W w' v n ∧ (n = 0 ↔ dpFEq it iv q r = true)) := Lib.hid fun W hW => by
  rw [hcx, hcy]
  refine (C.out W hW).mono ?_
  rintro e w' ⟨v, n, h1, h2, _, h4⟩
  exact ⟨v, n, h1, h2, h4⟩
 obtain ⟨W0, hW0⟩ : ∃ W0, W0 = (w.alloc (.cells cx 156)).alloc (.cells cy 156) := ⟨_, rfl⟩
 have hb : Below w.heap.size w W0 := by rw [hW0]; exact ((Below.refl _ _).alloc (Nat.le_refl _) _).alloc (by simp) _
 have z1 : W0.heap[w.heap.size]? = some (.cells cx 156 (0, 0)) := by rw [hW0, Below.heap_alloc _ _ _ (by simp)]; exact heap_alloc_new w _
 have z2 : W0.heap[w.heap.size + 1]? = some (.cells cy 156 (0, 0)) := by
  rw [hW0]
  have := heap_alloc_new (w.alloc (.cells cx 156)) (.cells cy 156)
  simpa using this
 have zc := (hb.block _ (Array.getElem?_eq_some_iff.1 hbc).1).trans hbc
 have HB := Lib.hid hb
 have HW := Lib.hid hW0
 have HSX := Lib.hid sx
 have HSY := Lib.hid sy
 clear hW0 hb hbc hcx hcy C hq hr hT sx sy
 go_enter Tryz.func109, Tryz.ntmps109
 go_upto_region 1 with fail
 rw [← HW.out]
 go_wp2_with (first
  | ((with_reducible refine arm_load_all 6 info156 Tryz.underlying156 z1 ?_ ?_ ?_ ?_); rfl; rfl; exact HSX.out)
  | ((with_reducible refine arm_load_all 6 info156 Tryz.underlying156 z2 ?_ ?_ ?_ ?_); rfl; rfl; exact HSY.out)
  | ((with_reducible refine arm_load_all 2 info101 Tryz.underlying101 zc ?_ ?_ ?_ ?_); rfl; rfl; rfl)
  | (go_at_call 105; (with_reducible refine (C2.out _ HB.out).mono ?_); rintro e w1 ⟨v, m, rfl, hrs, hiff⟩))
 go_ret
 obtain ⟨A, c, rfl⟩ := hrs.slice
 exact ⟨A, m, c, rfl, below_then HB.out HB.out.size hrs.bel, hiff⟩
theorem k112 (q r : Dot × Sl5) (it iv : Bool) (bc : Nat) (w : World) (hq : PtR w w.heap.size q.1 q.2) (hr : PtR w w.heap.size r.1 r.2) (hT : Lib.Utf8Tabs 3 4 w) (hT4 : 4 < w.heap.size) (hbc : w.heap[bc]? = some (.cells #[.bool it, .bool iv] 101 (0, 0))) :
 Calls Tryz.prog 112 #[.agg (hpI q).toArray, .agg (hpI r).toArray, .pointer (some ⟨bc, 0, none⟩)] w fun e w' => ∃ A n c, e = .returned (.slice A n c) ∧ Below w.heap.size w w' ∧ (n = 0 ↔ hpIEq it iv q r = true) := by
 have C := Lib.hid fun (W : World) (hW : Below w.heap.size w W) => c113 q.1 r.1 q.2 r.2 it iv W ((hq.below hW).more hW.size) ((hr.below hW).more hW.size) (utf8_below hT hT4 hW) (Nat.lt_of_lt_of_le hT4 hW.size)
 obtain ⟨cx, hcx⟩ : ∃ cx, cx = (hpI q).toArray := ⟨_, rfl⟩
 obtain ⟨cy, hcy⟩ : ∃ cy, cy = (hpI r).toArray := ⟨_, rfl⟩
 have sx : cx.size = 13 := by rw [hcx]; rfl
 have sy : cy.size = 13 := by rw [hcy]; rfl
 rw [← hcx, ← hcy]
 have C2 : Hid (∀ W, Below w.heap.size w W → Calls Tryz.prog 113 #[.agg cx, .agg cy, .agg #[.bool it, .bool iv]] W fun e w' => ∃ v n, e = .returned v ∧ Rs W w' v n ∧ (n = 0 ↔ hpIEq it iv q r = true)) := Lib.hid fun W hW => by
  rw [hcx, hcy]
  refine (C.out W hW).mono ?_
  rintro e w' ⟨v, n, h1, h2, _, h4⟩
  exact ⟨v, n, h1, h2, h4⟩
 obtain ⟨W0, hW0⟩ : ∃ W0, W0 = (w.alloc (.cells cx 175)).alloc (.cells cy 175) := ⟨_, rfl⟩
 have hb : Below w.heap.size w W0 := by rw [hW0]; exact ((Below.refl _ _).alloc (Nat.le_refl _) _).alloc (by simp) _
 have z1 : W0.heap[w.heap.size]? = some (.cells cx 175 (0, 0)) := by rw [hW0, Below.heap_alloc _ _ _ (by simp)]; exact heap_alloc_new w _
 have z2 : W0.heap[w.heap.size + 1]? = some (.cells cy 175 (0, 0)) := by
  rw [hW0]
  have := heap_alloc_new (w.alloc (.cells cx 175)) (.cells cy 175)
  simpa using this
 have zc := (hb.block _ (Array.getElem?_eq_some_iff.1 hbc).1).trans hbc
 have HB := Lib.hid hb
 have HW := Lib.hid hW0
 have HSX := Lib.hid sx
 have HSY := Lib.hid sy
 clear hW0 hb hbc hcx hcy C hq hr hT sx sy
 go_enter Tryz.func112, Tryz.ntmps112
 go_upto_region 1 with fail
 rw [← HW.out]
 go_wp2_with (first
  | ((with_reducible refine arm_load_all 13 info175 Tryz.underlying175 z1 ?_ ?_ ?_ ?_); rfl; rfl; exact HSX.out)
  | ((with_reducible refine arm_load_all 13 info175 Tryz.underlying175 z2 ?_ ?_ ?_ ?_); rfl; rfl; exact HSY.out)
  | ((with_reducible refine arm_load_all 2 info101 Tryz.underlying101 zc ?_ ?_ ?_ ?_); rfl; rfl; rfl)
  | (go_at_call 113; (with_reducible refine (C2.out _ HB.out).mono ?_); rintro e w1 ⟨v, m, rfl, hrs, hiff⟩))
 go_ret
 obtain ⟨A, c, rfl⟩ := hrs.slice
 exact ⟨A, m, c, rfl, below_then HB.out HB.out.size hrs.bel, hiff⟩
theorem k116 (q r : Dot × Sl5) (it iv : Bool) (bc : Nat) (w : World) (hq : PtR w w.heap.size q.1 q.2) (hr : PtR w w.heap.size r.1 r.2) (hT : Lib.Utf8Tabs 3 4 w) (hT4 : 4 < w.heap.size) (hbc : w.heap[bc]? = some (.cells #[.bool it, .bool iv] 101 (0, 0))) :
 Calls Tryz.prog 116 #[.agg (hpF q).toArray, .agg (hpF r).toArray, .pointer (some ⟨bc, 0, none⟩)] w fun e w' => ∃ A n c, e = .returned (.slice A n c) ∧ Below w.heap.size w w' ∧ (n = 0 ↔ hpFEq it iv q r = true) := by
 have C := Lib.hid fun (W : World) (hW : Below w.heap.size w W) => c117 q.1 r.1 q.2 r.2 it iv W ((hq.below hW).more hW.size) ((hr.below hW).more hW.size) (utf8_below hT hT4 hW) (Nat.lt_of_lt_of_le hT4 hW.size)
 obtain ⟨cx, hcx⟩ : ∃ cx, cx = (hpF q).toArray := ⟨_, rfl⟩
 obtain ⟨cy, hcy⟩ : ∃ cy, cy = (hpF r).toArray := ⟨_, rfl⟩
 have sx : cx.size = 13 := by rw [hcx]; rfl
 have sy : cy.size = 13 := by rw [hcy]; rfl
 rw [← hcx, ← hcy]
 have C2 : Hid (∀ W, Below w.heap.size w W → Calls Tryz.prog 117 #[.agg cx, .agg cy, .agg #[.bool it, .bool iv]] W fun e w' => ∃ v n, e = .returned v ∧ Rs W w' v n ∧ (n = 0 ↔ hpFEq it iv q r = true)) := Lib.hid fun W hW => by
  rw [hcx, hcy]
  refine (C.out W hW).mono ?_
  rintro e w' ⟨v, n, h1, h2, _, h4⟩
  exact ⟨v, n, h1, h2, h4⟩
 obtain ⟨W0, hW0⟩ : ∃ W0, W0 = (w.alloc (.cells cx 162)).alloc (.cells cy 162) := ⟨_, rfl⟩
 have hb : Below w.heap.size w W0 := by rw [hW0]; exact ((Below.refl _ _).alloc (Nat.le_refl _) _).alloc (by simp) _
 have z1 : W0.heap[w.heap.size]? = some (.cells cx 162 (0, 0)) := by rw [hW0, Below.heap_alloc _ _ _ (by simp)]; exact heap_alloc_new w _
 have z2 : W0.heap[w.heap.size + 1]? = some (.cells cy 162 (0, 0)) := by
  rw [hW0]
  have := heap_alloc_new (w.alloc (.cells cx 162)) (.cells cy 162)
  simpa using this
 have zc := (hb.block _ (Array.getElem?_eq_some_iff.1 hbc).1).trans hbc
 have HB := Lib.hid hb
 have HW := Lib.hid hW0
 have HSX := Lib.hid sx
 have HSY := Lib.hid sy
 clear hW0 hb hbc hcx hcy C hq hr hT sx sy
 go_enter Tryz.func116, Tryz.ntmps116
 go_upto_region 1 with fail
 rw [← HW.out]
 go_wp2_with (first
  | ((with_reducible refine arm_load_all 13 info162 Tryz.underlying162 z1 ?_ ?_ ?_ ?_); rfl; rfl; exact HSX.out)
  | ((with_reducible refine arm_load_all 13 info162 Tryz.underlying162 z2 ?_ ?_ ?_ ?_); rfl; rfl; exact HSY.out)
  | ((with_reducible refine arm_load_all 2 info101 Tryz.underlying101 zc ?_ ?_ ?_ ?_); rfl; rfl; rfl)
  | (go_at_call 117; (with_reducible refine (C2.out _ HB.out).mono ?_); rintro e w1 ⟨v, m, rfl, hrs, hiff⟩))
 go_ret
 obtain ⟨A, c, rfl⟩ := hrs.slice
 exact ⟨A, m, c, rfl, below_then HB.out HB.out.size hrs.bel, hiff⟩
theorem k120 (q r : Dot × Sl5) (it iv : Bool) (bc : Nat) (w : World) (hq : PtR w w.heap.size q.1 q.2) (hr : PtR w w.heap.size r.1 r.2) (hT : Lib.Utf8Tabs 3 4 w) (hT4 : 4 < w.heap.size) (hbc : w.heap[bc]? = some (.cells #[.bool it, .bool iv] 101 (0, 0))) :
 Calls Tryz.prog 120 #[.agg (epI q).toArray, .agg (epI r).toArray, .pointer (some ⟨bc, 0, none⟩)] w fun e w' => ∃ A n c, e = .returned (.slice A n c) ∧ Below w.heap.size w w' ∧ (n = 0 ↔ epIEq it iv q r = true) := by
 have C := Lib.hid fun (W : World) (hW : Below w.heap.size w W) => c121 q.1 r.1 q.2 r.2 it iv W ((hq.below hW).more hW.size) ((hr.below hW).more hW.size) (utf8_below hT hT4 hW) (Nat.lt_of_lt_of_le hT4 hW.size)
 obtain ⟨cx, hcx⟩ : ∃ cx, cx = (epI q).toArray := ⟨_, rfl⟩
 obtain ⟨cy, hcy⟩ : ∃ cy, cy = (epI r).toArray := ⟨_, rfl⟩
 have sx : cx.size = 18 := by rw [hcx]; rfl
 have sy : cy.size = 18 := by rw [hcy]; rfl
 rw [← hcx, ← hcy]
 have C2 : Hid (∀ W, Below w.heap.size w W → Calls Tryz.prog 121 #[.agg cx, .agg cy, .agg #[.bool it, .bool iv]] W fun e w' => ∃ v n, e = .returned v ∧ Rs W w' v n ∧ (n = 0 ↔ epIEq it iv q r = true)) := Lib.hid fun W hW => by
  rw [hcx, hcy]
  refine (C.out W hW).mono ?_
  rintro e w' ⟨v, n, h1, h2, _, h4⟩
  exact ⟨v, n, h1, h2, h4⟩
 obtain ⟨W0, hW0⟩ : ∃ W0, W0 = (w.alloc (.cells cx 178)).alloc (.cells cy 178) := ⟨_, rfl⟩
 have hb : Below w.heap.size w W0 := by rw [hW0]; exact ((Below.refl _ _).alloc (Nat.le_refl _) _).alloc (by simp) _
 have z1 : W0.heap[w.heap.size]? = some (.cells cx 178 (0, 0)) := by rw [hW0, Below.heap_alloc _ _ _ (by simp)]; exact heap_alloc_new w _
 have z2 : W0.heap[w.heap.size + 1]? = some (.cells cy 178 (0, 0)) := by
  rw [hW0]
  have := heap_alloc_new (w.alloc (.cells cx 178)) (.cells cy 178)
  simpa using this
 have zc := (hb.block _ (Array.getElem?_eq_some_iff.1 hbc).1).trans hbc
 have HB := Lib.hid hb
 have HW := Lib.hid hW0
 have HSX := Lib.hid sx
 have HSY := Lib.hid sy
 clear hW0 hb hbc hcx hcy C hq hr hT sx sy
 go_enter Tryz.func120, Tryz.ntmps120
 go_upto_region 1 with fail
 rw [← HW.out]
 go_wp2_with (first
  | ((with_reducible refine arm_load_all 18 info178 Tryz.underlying178 z1 ?_ ?_ ?_ ?_); rfl; rfl; exact HSX.out)
  | ((with_reducible refine arm_load_all 18 info178 Tryz.underlying178 z2 ?_ ?_ ?_ ?_); rfl; rfl; exact HSY.out)
  | ((with_reducible refine arm_load_all 2 info101 Tryz.underlying101 zc ?_ ?_ ?_ ?_); rfl; rfl; rfl)
  | (go_at_call 121; (with_reducible refine (C2.out _ HB.out).mono ?_); rintro e w1 ⟨v, m, rfl, hrs, hiff⟩))
 go_ret
 obtain ⟨A, c, rfl⟩ := hrs.slice
 exact ⟨A, m, c, rfl, below_then HB.out HB.out.size hrs.bel, hiff⟩
theorem k124 (q r : Dot × Sl5) (it iv : Bool) (bc : Nat) (w : World) (hq : PtR w w.heap.size q.1 q.2) (hr : PtR w w.heap.size r.1 r.2) (hT : Lib.Utf8Tabs 3 4 w) (hT4 : 4 < w.heap.size) (hbc : w.heap[bc]? = some (.cells #[.bool it, .bool iv] 101 (0, 0))) :
 Calls Tryz.prog 124 #[.agg (epF q).toArray, .agg (epF r).toArray, .pointer (some ⟨bc, 0, none⟩)] w fun e w' => ∃ A n c, e = .returned (.slice A n c) ∧ Below w.heap.size w w' ∧ (n = 0 ↔ epFEq it iv q r = true) := by
 have C := Lib.hid fun (W : World) (hW : Below w.heap.size w W) => c125 q.1 r.1 q.2 r.2 it iv W ((hq.below hW).more hW.size) ((hr.below hW).more hW.size) (utf8_below hT hT4 hW) (Nat.lt_of_lt_of_le hT4 hW.size)
 obtain ⟨cx, hcx⟩ : ∃ cx, cx = (epF q).toArray := ⟨_, rfl⟩
 obtain ⟨cy, hcy⟩ : ∃ cy, cy = (epF r).toArray := ⟨_, rfl⟩
 have sx : cx.size = 18 := by rw [hcx]; rfl
 have sy : cy.size = 18 := by rw [hcy]; rfl
 rw [← hcx, ← hcy]
 have C2 : Hid (∀ W, Below w.heap.size w W → Calls Tryz.prog 125 #[.agg cx, .agg cy, .agg #[.bool it, .bool iv]] W fun e w' => ∃ v n, e = .returned v ∧ Rs W w' v n ∧ (n = 0 ↔ epFEq it iv q r = true)) := Lib.hid fun W hW => by
  rw [hcx, hcy]
  refine (C.out W hW).mono ?_
  rintro e w' ⟨v, n, h1, h2, _, h4⟩
  exact ⟨v, n, h1, h2, h4⟩
 obtain ⟨W0, hW0⟩ : ∃ W0, W0 = (w.alloc (.cells cx 167)).alloc (.cells cy 167) := ⟨_, rfl⟩
 have hb : Below w.heap.size w W0 := by rw [hW0]; exact ((Below.refl _ _).alloc (Nat.le_refl _) _).alloc (by simp) _
 have z1 : W0.heap[w.heap.size]? = some (.cells cx 167 (0, 0)) := by rw [hW0, Below.heap_alloc _ _ _ (by simp)]; exact heap_alloc_new w _
 have z2 : W0.heap[w.heap.size + 1]? = some (.cells cy 167 (0, 0)) := by
  rw [hW0]
  have := heap_alloc_new (w.alloc (.cells cx 167)) (.cells cy 167)
  simpa using this
 have zc := (hb.block _ (Array.getElem?_eq_some_iff.1 hbc).1).trans hbc
 have HB := Lib.hid hb
 have HW := Lib.hid hW0
 have HSX := Lib.hid sx
 have HSY := Lib.hid sy
 clear hW0 hb hbc hcx hcy C hq hr hT sx sy
 go_enter Tryz.func124, Tryz.ntmps124
 go_upto_region 1 with fail
 rw [← HW.out]
 go_wp2_with (first
  | ((with_reducible refine arm_load_all 18 info167 Tryz.underlying167 z1 ?_ ?_ ?_ ?_); rfl; rfl; exact HSX.out)
  | ((with_reducible refine arm_load_all 18 info167 Tryz.underlying167 z2 ?_ ?_ ?_ ?_); rfl; rfl; exact HSY.out)
  | ((with_reducible refine arm_load_all 2 info101 Tryz.underlying101 zc ?_ ?_ ?_ ?_); rfl; rfl; rfl)
  | (go_at_call 125; (with_reducible refine (C2.out _ HB.out).mono ?_); rintro e w1 ⟨v, m, rfl, hrs, hiff⟩))
 go_ret
 obtain ⟨A, c, rfl⟩ := hrs.slice
 exact ⟨A, m, c, rfl, below_then HB.out HB.out.size hrs.bel, hiff⟩
end Go.Proofs.YtlpddogcnpokfaaGreatDoor
