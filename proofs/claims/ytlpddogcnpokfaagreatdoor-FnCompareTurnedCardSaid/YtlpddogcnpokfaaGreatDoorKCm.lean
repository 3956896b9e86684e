/- Contracts of functions of the program, for the comparison of aggregations (part KCm). -/
import Derived.Test.YtlpddogcnpokfaaGreatDoorKLa
import Derived.Test.YtlpddogcnpokfaaGreatDoorKDm4
import Derived.Test.YtlpddogcnpokfaaGreatDoorKDm5
set_option linter.all false
namespace Go.Proofs.YtlpddogcnpokfaaGreatDoor
open Go.RowKit
/-! ### dataOf, Compare -/
def tpOf (dl : Bool) : Int := if dl then 2 else 1
structure MadeOf (w : World) (T : TypeId) (sz : Nat) (enc : Dot × Sl5 → List Value) (tail : List Value) (l : List Dot) (v : Value) : Prop where
 ex : ∃ (A : Option Addr) (n c : Nat) (pts : List (Dot × Sl5)), v = .iface T (.agg (.slice A n c :: tail).toArray) ∧ pts.map (·.1) = l ∧ Rd w w.heap.size sz A n c (pts.map enc) ∧ (∀ q ∈ pts, PtR w w.heap.size q.1 q.2) ∧ n ≤ 900
theorem MadeOf.below {w w' : World} {T : TypeId} {sz : Nat} {enc : Dot × Sl5 → List Value} {tail : List Value} {l : List Dot} {v : Value} (h : MadeOf w T sz enc tail l v) (hb : Below w.heap.size w w') : MadeOf w' T sz enc tail l v := by
 obtain ⟨A, n, c, pts, rfl, h1, h2, h3, h4⟩ := h.ex
 exact ⟨A, n, c, pts, rfl, h1, (h2.below hb).more hb.size, fun q hq => ((h3 q hq).below hb).more hb.size, h4⟩
def madeT (kd : Int) (fl : Bool) : TypeId := if kd = 0 then (if fl then 134 else 131) else if kd = 2 then (if fl then 127 else 123) else if kd = 4 then (if fl then 142 else 138) else (if fl then 150 else 146)
def madeSz (kd : Int) : Nat := if kd = 4 then 13 else if kd = 5 then 18 else 6
def madeEnc (kd : Int) (fl : Bool) : Dot × Sl5 → List Value := if kd = 4 then (if fl then hpF else hpI) else if kd = 5 then (if fl then epF else epI) else (if fl then dpF else dpI)
def madeTail (kd : Int) (dl mo : Bool) : List Value := if kd = 0 then [.int .u8 (tpOf dl), .bool mo] else if kd = 2 then [] else [.int .u8 (tpOf dl)]
def Made (w : World) (kd : Int) (fl dl mo : Bool) (l : List Dot) (v : Value) : Prop := MadeOf w (madeT kd fl) (madeSz kd) (madeEnc kd fl) (madeTail kd dl mo) (l.map (madeD kd fl)) v
theorem Made.below {w w' : World} {kd : Int} {fl dl mo : Bool} {l : List Dot} {v : Value} (h : Made w kd fl dl mo l v) (hb : Below w.heap.size w w') : Made w' kd fl dl mo l v := MadeOf.below h hb
def KindOk (kd : Int) : Prop := kd = 0 ∨ kd = 2 ∨ kd = 4 ∨ kd = 5
theorem c40m {kd : Int} (hk : KindOk kd) (dl mo : Bool) (A : Option Addr) (n c : Nat) (l : List (Dot × Sl5)) (w : World) (h : DotsR w w.heap.size A n c l) (hok : ∀ x ∈ l, AttrsOk x.1.attrs) (hbs : ∀ x ∈ l, x.1.bounds.length ≤ 900) (hn : n ≤ 900) :
 Calls Tryz.prog 40 #[.agg #[.int .u8 kd, .bool true, .bool dl, .bool mo, .slice A n c], .func (.func 30) #[] #[]] w fun e w' => ∃ v, e = .returned v ∧ Made w' kd true dl mo (l.map (·.1)) v ∧ Below w.heap.size w w' := by
 rcases hk with rfl | rfl | rfl | rfl
 · (
 refine (c40_0 true dl mo A n c l w h hok hn _ rfl).mono ?_
 rintro e w' ⟨A', c', pts, rfl, h1, h2, h3, h4⟩
 exact ⟨_, rfl, ⟨A', n, c', pts, rfl, h1.trans (by rw [List.map_map]; rfl), h2, h3, hn⟩, h4⟩)
 · (
 refine (c40_2 true dl mo A n c l w h hok hn _ rfl).mono ?_
 rintro e w' ⟨A', c', pts, rfl, h1, h2, h3, h4⟩
 exact ⟨_, rfl, ⟨A', n, c', pts, rfl, h1.trans (by rw [List.map_map]; rfl), h2, h3, hn⟩, h4⟩)
 · (
 refine (c40_4 true dl mo A n c l w h hok hbs hn _ rfl).mono ?_
 rintro e w' ⟨A', c', pts, rfl, h1, h2, h3, h4⟩
 exact ⟨_, rfl, ⟨A', n, c', pts, rfl, h1.trans (by rw [List.map_map]; rfl), h2, h3, hn⟩, h4⟩)
 · (
 refine (c40_5 true dl mo A n c l w h hok hbs hn _ rfl).mono ?_
 rintro e w' ⟨A', c', pts, rfl, h1, h2, h3, h4⟩
 exact ⟨_, rfl, ⟨A', n, c', pts, rfl, h1.trans (by rw [List.map_map]; rfl), h2, h3, hn⟩, h4⟩)
theorem c41m {kd : Int} (hk : KindOk kd) (dl mo : Bool) (A : Option Addr) (n c : Nat) (l : List (Dot × Sl5)) (w : World) (h : DotsR w w.heap.size A n c l) (hok : ∀ x ∈ l, AttrsOk x.1.attrs) (hbs : ∀ x ∈ l, x.1.bounds.length ≤ 900) (hn : n ≤ 900) :
 Calls Tryz.prog 41 #[.agg #[.int .u8 kd, .bool false, .bool dl, .bool mo, .slice A n c], .func (.func 42) #[] #[]] w fun e w' => ∃ v, e = .returned v ∧ Made w' kd false dl mo (l.map (·.1)) v ∧ Below w.heap.size w w' := by
 rcases hk with rfl | rfl | rfl | rfl
 · (
 refine (c41_0 false dl mo A n c l w h hok hn _ rfl).mono ?_
 rintro e w' ⟨A', c', pts, rfl, h1, h2, h3, h4⟩
 exact ⟨_, rfl, ⟨A', n, c', pts, rfl, h1.trans (by rw [List.map_map]; rfl), h2, h3, hn⟩, h4⟩)
 · (
 refine (c41_2 false dl mo A n c l w h hok hn _ rfl).mono ?_
 rintro e w' ⟨A', c', pts, rfl, h1, h2, h3, h4⟩
 exact ⟨_, rfl, ⟨A', n, c', pts, rfl, h1.trans (by rw [List.map_map]; rfl), h2, h3, hn⟩, h4⟩)
 · (
 refine (c41_4 false dl mo A n c l w h hok hbs hn _ rfl).mono ?_
 rintro e w' ⟨A', c', pts, rfl, h1, h2, h3, h4⟩
 exact ⟨_, rfl, ⟨A', n, c', pts, rfl, h1.trans (by rw [List.map_map]; rfl), h2, h3, hn⟩, h4⟩)
 · (
 refine (c41_5 false dl mo A n c l w h hok hbs hn _ rfl).mono ?_
 rintro e w' ⟨A', c', pts, rfl, h1, h2, h3, h4⟩
 exact ⟨_, rfl, ⟨A', n, c', pts, rfl, h1.trans (by rw [List.map_map]; rfl), h2, h3, hn⟩, h4⟩)
def headK (k1 k2 : Int) (f1 f2 d1 d2 m1 m2 : Bool) : Bool := k1 == k2 && f1 == f2 && (k1 == 2 || d1 == d2) && (!(k1 == 0) || m1 == m2)
theorem c22_131 {d1 d2 m1 m2 : Bool} {l1 l2 : List Dot} (it iv : Bool) {a b : Value} {w : World} (ha : Made w 0 false d1 m1 l1 a) (hb : Made w 0 false d2 m2 l2 b) (hl1 : ∀ x ∈ l1, x.Ok) (hl2 : ∀ x ∈ l2, x.Ok) (hT : Lib.Utf8Tabs 3 4 w) (hT4 : 4 < w.heap.size) :
 Calls Tryz.prog 22 #[a, b, .bool it, .bool iv] w fun e w' => e = .returned (.bool (headK 0 0 false false d1 d2 m1 m2 && (l1.length == l2.length && greedy (sameDot 0 false it iv) l1 l2))) ∧ Below w.heap.size w w' := by
 obtain ⟨A1, n1, c1, xs, rfl, e1, r1, p1, q1⟩ := ha.ex
 obtain ⟨A2, n2, c2, ys, rfl, e2, r2, p2, q2⟩ := hb.ex
 have C := c39_131 A1 A2 n1 n2 c1 c2 (tpOf d1) (tpOf d2) m1 m2 it iv xs ys w r1 r2 p1 p2 (by omega) (by omega) hT hT4
 have hd := diff_made (kd := 0) false it iv e1 e2 hl1 hl2
 have hm : madeEq 0 false it iv = dpIEq it iv := by funext q r; simp [madeEq]
 rw [hm] at hd
 rw [hd] at C
 have hh : headK 0 0 false false d1 d2 m1 m2 = ((tpOf d1 == tpOf d2) && (m1 == m2)) := by cases d1 <;> cases d2 <;> cases m1 <;> cases m2 <;> rfl
 rw [hh]
 skip
 exact c22_of _ _ it iv _ w C
theorem c22_134 {d1 d2 m1 m2 : Bool} {l1 l2 : List Dot} (it iv : Bool) {a b : Value} {w : World} (ha : Made w 0 true d1 m1 l1 a) (hb : Made w 0 true d2 m2 l2 b) (hl1 : ∀ x ∈ l1, x.Ok) (hl2 : ∀ x ∈ l2, x.Ok) (hT : Lib.Utf8Tabs 3 4 w) (hT4 : 4 < w.heap.size) :
 Calls Tryz.prog 22 #[a, b, .bool it, .bool iv] w fun e w' => e = .returned (.bool (headK 0 0 true true d1 d2 m1 m2 && (l1.length == l2.length && greedy (sameDot 0 true it iv) l1 l2))) ∧ Below w.heap.size w w' := by
 obtain ⟨A1, n1, c1, xs, rfl, e1, r1, p1, q1⟩ := ha.ex
 obtain ⟨A2, n2, c2, ys, rfl, e2, r2, p2, q2⟩ := hb.ex
 have C := c39_134 A1 A2 n1 n2 c1 c2 (tpOf d1) (tpOf d2) m1 m2 it iv xs ys w r1 r2 p1 p2 (by omega) (by omega) hT hT4
 have hd := diff_made (kd := 0) true it iv e1 e2 hl1 hl2
 have hm : madeEq 0 true it iv = dpFEq it iv := by funext q r; simp [madeEq]
 rw [hm] at hd
 rw [hd] at C
 have hh : headK 0 0 true true d1 d2 m1 m2 = ((tpOf d1 == tpOf d2) && (m1 == m2)) := by cases d1 <;> cases d2 <;> cases m1 <;> cases m2 <;> rfl
 rw [hh]
 skip
 exact c22_of _ _ it iv _ w C
theorem c22_123 {d1 d2 m1 m2 : Bool} {l1 l2 : List Dot} (it iv : Bool) {a b : Value} {w : World} (ha : Made w 2 false d1 m1 l1 a) (hb : Made w 2 false d2 m2 l2 b) (hl1 : ∀ x ∈ l1, x.Ok) (hl2 : ∀ x ∈ l2, x.Ok) (hT : Lib.Utf8Tabs 3 4 w) (hT4 : 4 < w.heap.size) :
 Calls Tryz.prog 22 #[a, b, .bool it, .bool iv] w fun e w' => e = .returned (.bool (headK 2 2 false false d1 d2 m1 m2 && (l1.length == l2.length && greedy (sameDot 2 false it iv) l1 l2))) ∧ Below w.heap.size w w' := by
 obtain ⟨A1, n1, c1, xs, rfl, e1, r1, p1, q1⟩ := ha.ex
 obtain ⟨A2, n2, c2, ys, rfl, e2, r2, p2, q2⟩ := hb.ex
 have C := c39_123 A1 A2 n1 n2 c1 c2 it iv xs ys w r1 r2 p1 p2 (by omega) (by omega) hT hT4
 have hd := diff_made (kd := 2) false it iv e1 e2 hl1 hl2
 have hm : madeEq 2 false it iv = dpIEq it iv := by funext q r; simp [madeEq]
 rw [hm] at hd
 rw [hd] at C
 have hh : headK 2 2 false false d1 d2 m1 m2 = true := by cases d1 <;> cases d2 <;> cases m1 <;> cases m2 <;> rfl
 rw [hh]
 rw [Bool.true_and]
 exact c22_of _ _ it iv _ w C
theorem c22_127 {d1 d2 m1 m2 : Bool} {l1 l2 : List Dot} (it iv : Bool) {a b : Value} {w : World} (ha : Made w 2 true d1 m1 l1 a) (hb : Made w 2 true d2 m2 l2 b) (hl1 : ∀ x ∈ l1, x.Ok) (hl2 : ∀ x ∈ l2, x.Ok) (hT : Lib.Utf8Tabs 3 4 w) (hT4 : 4 < w.heap.size) :
 Calls Tryz.prog 22 #[a, b, .bool it, .bool iv] w fun e w' => e = .returned (.bool (headK 2 2 true true d1 d2 m1 m2 && (l1.length == l2.length && greedy (sameDot 2 true it iv) l1 l2))) ∧ Below w.heap.size w w' := by
 obtain ⟨A1, n1, c1, xs, rfl, e1, r1, p1, q1⟩ := ha.ex
 obtain ⟨A2, n2, c2, ys, rfl, e2, r2, p2, q2⟩ := hb.ex
 have C := c39_127 A1 A2 n1 n2 c1 c2 it iv xs ys w r1 r2 p1 p2 (by omega) (by omega) hT hT4
 have hd := diff_made (kd := 2) true it iv e1 e2 hl1 hl2
 have hm : madeEq 2 true it iv = dpFEq it iv := by funext q r; simp [madeEq]
 rw [hm] at hd
 rw [hd] at C
 have hh : headK 2 2 true true d1 d2 m1 m2 = true := by cases d1 <;> cases d2 <;> cases m1 <;> cases m2 <;> rfl
 rw [hh]
 rw [Bool.true_and]
 exact c22_of _ _ it iv _ w C
theorem c22_138 {d1 d2 m1 m2 : Bool} {l1 l2 : List Dot} (it iv : Bool) {a b : Value} {w : World} (ha : Made w 4 false d1 m1 l1 a) (hb : Made w 4 false d2 m2 l2 b) (hl1 : ∀ x ∈ l1, x.Ok) (hl2 : ∀ x ∈ l2, x.Ok) (hT : Lib.Utf8Tabs 3 4 w) (hT4 : 4 < w.heap.size) :
 Calls Tryz.prog 22 #[a, b, .bool it, .bool iv] w fun e w' => e = .returned (.bool (headK 4 4 false false d1 d2 m1 m2 && (l1.length == l2.length && greedy (sameDot 4 false it iv) l1 l2))) ∧ Below w.heap.size w w' := by
 obtain ⟨A1, n1, c1, xs, rfl, e1, r1, p1, q1⟩ := ha.ex
 obtain ⟨A2, n2, c2, ys, rfl, e2, r2, p2, q2⟩ := hb.ex
 have C := c39_138 A1 A2 n1 n2 c1 c2 (tpOf d1) (tpOf d2) it iv xs ys w r1 r2 p1 p2 (by omega) (by omega) hT hT4
 have hd := diff_made (kd := 4) false it iv e1 e2 hl1 hl2
 have hm : madeEq 4 false it iv = hpIEq it iv := by funext q r; simp [madeEq]
 rw [hm] at hd
 rw [hd] at C
 have hh : headK 4 4 false false d1 d2 m1 m2 = (tpOf d1 == tpOf d2) := by cases d1 <;> cases d2 <;> cases m1 <;> cases m2 <;> rfl
 rw [hh]
 skip
 exact c22_of _ _ it iv _ w C
theorem c22_142 {d1 d2 m1 m2 : Bool} {l1 l2 : List Dot} (it iv : Bool) {a b : Value} {w : World} (ha : Made w 4 true d1 m1 l1 a) (hb : Made w 4 true d2 m2 l2 b) (hl1 : ∀ x ∈ l1, x.Ok) (hl2 : ∀ x ∈ l2, x.Ok) (hT : Lib.Utf8Tabs 3 4 w) (hT4 : 4 < w.heap.size) :
 Calls Tryz.prog 22 #[a, b, .bool it, .bool iv] w fun e w' => e = .returned (.bool (headK 4 4 true true d1 d2 m1 m2 && (l1.length == l2.length && greedy (sameDot 4 true it iv) l1 l2))) ∧ Below w.heap.size w w' := by
 obtain ⟨A1, n1, c1, xs, rfl, e1, r1, p1, q1⟩ := ha.ex
 obtain ⟨A2, n2, c2, ys, rfl, e2, r2, p2, q2⟩ := hb.ex
 have C := c39_142 A1 A2 n1 n2 c1 c2 (tpOf d1) (tpOf d2) it iv xs ys w r1 r2 p1 p2 (by omega) (by omega) hT hT4
 have hd := diff_made (kd := 4) true it iv e1 e2 hl1 hl2
 have hm : madeEq 4 true it iv = hpFEq it iv := by funext q r; simp [madeEq]
 rw [hm] at hd
 rw [hd] at C
 have hh : headK 4 4 true true d1 d2 m1 m2 = (tpOf d1 == tpOf d2) := by cases d1 <;> cases d2 <;> cases m1 <;> cases m2 <;> rfl
 rw [hh]
 skip
 exact c22_of _ _ it iv _ w C
theorem c22_146 {d1 d2 m1 m2 : Bool} {l1 l2 : List Dot} (it iv : Bool) {a b : Value} {w : World} (ha : Made w 5 false d1 m1 l1 a) (hb : Made w 5 false d2 m2 l2 b) (hl1 : ∀ x ∈ l1, x.Ok) (hl2 : ∀ x ∈ l2, x.Ok) (hT : Lib.Utf8Tabs 3 4 w) (hT4 : 4 < w.heap.size) :
 Calls Tryz.prog 22 #[a, b, .bool it, .bool iv] w fun e w' => e = .returned (.bool (headK 5 5 false false d1 d2 m1 m2 && (l1.length == l2.length && greedy (sameDot 5 false it iv) l1 l2))) ∧ Below w.heap.size w w' := by
 obtain ⟨A1, n1, c1, xs, rfl, e1, r1, p1, q1⟩ := ha.ex
 obtain ⟨A2, n2, c2, ys, rfl, e2, r2, p2, q2⟩ := hb.ex
 have C := c39_146 A1 A2 n1 n2 c1 c2 (tpOf d1) (tpOf d2) it iv xs ys w r1 r2 p1 p2 (by omega) (by omega) hT hT4
 have hd := diff_made (kd := 5) false it iv e1 e2 hl1 hl2
 have hm : madeEq 5 false it iv = epIEq it iv := by funext q r; simp [madeEq]
 rw [hm] at hd
 rw [hd] at C
 have hh : headK 5 5 false false d1 d2 m1 m2 = (tpOf d1 == tpOf d2) := by cases d1 <;> cases d2 <;> cases m1 <;> cases m2 <;> rfl
 rw [hh]
 skip
 exact c22_of _ _ it iv _ w C
theorem c22_150 {d1 d2 m1 m2 : Bool} {l1 l2 : List Dot} (it iv : Bool) {a b : Value} {w : World} (ha : Made w 5 true d1 m1 l1 a) (hb : Made w 5 true d2 m2 l2 b) (hl1 : ∀ x ∈ l1, x.Ok) (hl2 : ∀ x ∈ l2, x.Ok) (hT : Lib.Utf8Tabs 3 4 w) (hT4 : 4 < w.heap.size) :
 Calls Tryz.prog 22 #[a, b, .bool it, .bool iv] w fun e w' => e = .returned (.bool (headK 5 5 true true d1 d2 m1 m2 && (l1.length == l2.length && greedy (sameDot 5 true it iv) l1 l2))) ∧ Below w.heap.size w w' := by
 obtain ⟨A1, n1, c1, xs, rfl, e1, r1, p1, q1⟩ := ha.ex
 obtain ⟨A2, n2, c2, ys, rfl, e2, r2, p2, q2⟩ := hb.ex
 have C := c39_150 A1 A2 n1 n2 c1 c2 (tpOf d1) (tpOf d2) it iv xs ys w r1 r2 p1 p2 (by omega) (by omega) hT hT4
 have hd := diff_made (kd := 5) true it iv e1 e2 hl1 hl2
 have hm : madeEq 5 true it iv = epFEq it iv := by funext q r; simp [madeEq]
 rw [hm] at hd
 rw [hd] at C
 have hh : headK 5 5 true true d1 d2 m1 m2 = (tpOf d1 == tpOf d2) := by cases d1 <;> cases d2 <;> cases m1 <;> cases m2 <;> rfl
 rw [hh]
 skip
 exact c22_of _ _ it iv _ w C
theorem c22_ne {a b : Value} {w : World} (it iv : Bool) {D : Bool} (hD : D = false) (C : Calls Tryz.prog 39 #[a, b, .agg #[.bool it, .bool iv]] w fun e w' => ∃ A n c, e = .returned (.slice A n c) ∧ Below w.heap.size w w' ∧ n ≠ 0) : Calls Tryz.prog 22 #[a, b, .bool it, .bool iv] w fun e w' => e = .returned (.bool D) ∧ Below w.heap.size w w' := by
 subst hD
 refine c22_of a b it iv false w (C.mono ?_)
 rintro e w' ⟨A, n, c, rfl, h1, h2⟩
 exact ⟨A, n, c, rfl, h1, by simp [h2]⟩
theorem c22m {k1 k2 : Int} (hk1 : KindOk k1) (hk2 : KindOk k2) {f1 f2 d1 d2 m1 m2 : Bool} {l1 l2 : List Dot} (it iv : Bool) {a b : Value} {w : World} (ha : Made w k1 f1 d1 m1 l1 a) (hb : Made w k2 f2 d2 m2 l2 b) (hl1 : ∀ x ∈ l1, x.Ok) (hl2 : ∀ x ∈ l2, x.Ok) (hT : Lib.Utf8Tabs 3 4 w) (hT4 : 4 < w.heap.size) :
 Calls Tryz.prog 22 #[a, b, .bool it, .bool iv] w fun e w' => e = .returned (.bool (headK k1 k2 f1 f2 d1 d2 m1 m2 && (l1.length == l2.length && greedy (sameDot k1 f1 it iv) l1 l2))) ∧ Below w.heap.size w w' := by
 by_cases hs : k1 = k2 ∧ f1 = f2
 · (
 obtain ⟨rfl, rfl⟩ := hs
 rcases hk1 with rfl | rfl | rfl | rfl
 all_goals cases f1
 · exact c22_131 it iv ha hb hl1 hl2 hT hT4
 · exact c22_134 it iv ha hb hl1 hl2 hT hT4
 · exact c22_123 it iv ha hb hl1 hl2 hT hT4
 · exact c22_127 it iv ha hb hl1 hl2 hT hT4
 · exact c22_138 it iv ha hb hl1 hl2 hT hT4
 · exact c22_142 it iv ha hb hl1 hl2 hT hT4
 · exact c22_146 it iv ha hb hl1 hl2 hT hT4
 · exact c22_150 it iv ha hb hl1 hl2 hT hT4)
 · (
 have hD : (headK k1 k2 f1 f2 d1 d2 m1 m2 && (l1.length == l2.length && greedy (sameDot k1 f1 it iv) l1 l2)) = false := by
  have : (k1 == k2 && f1 == f2) = false := by
   by_cases e : k1 = k2
   · have : f1 ≠ f2 := fun h => hs ⟨e, h⟩
     simp [this]
   · simp [e]
  unfold headK
  rw [this]
  simp
 have hne : madeT k2 f2 ≠ madeT k1 f1 := by
  rcases hk1 with rfl | rfl | rfl | rfl
  all_goals rcases hk2 with rfl | rfl | rfl | rfl
  all_goals
   cases f1 <;> cases f2 <;> first | exact absurd ⟨rfl, rfl⟩ hs | (intro h; revert h; decide)
 obtain ⟨A1, n1, c1, xs, rfl, e1, r1, p1, q1⟩ := ha.ex
 obtain ⟨A2, n2, c2, ys, rfl, e2, r2, p2, q2⟩ := hb.ex
 clear hs e1 e2 r1 r2 p1 p2 ha hb
 refine c22_ne it iv hD ?_
 rcases hk1 with rfl | rfl | rfl | rfl
 all_goals cases f1
 · exact c39_ne131 _ _ _ it iv w hne
 · exact c39_ne134 _ _ _ it iv w hne
 · exact c39_ne123 _ _ _ it iv w hne
 · exact c39_ne127 _ _ _ it iv w hne
 · exact c39_ne138 _ _ _ it iv w hne
 · exact c39_ne142 _ _ _ it iv w hne
 · exact c39_ne146 _ _ _ it iv w hne
 · exact c39_ne150 _ _ _ it iv w hne)
set_option maxRecDepth 100000 in
set_option maxHeartbeats 2000000 in
theorem c23 {kd : Int} (hk : KindOk kd) (fl dl mo : Bool) (A : Option Addr) (n c : Nat) (l : List (Dot × Sl5)) (w : World) (h : DotsR w w.heap.size A n c l) (hok : ∀ x ∈ l, AttrsOk x.1.attrs) (hbs : ∀ x ∈ l, x.1.bounds.length ≤ 900) (hn : n ≤ 900) :
 Calls Tryz.prog 23 #[.agg #[.int .u8 kd, .bool fl, .bool dl, .bool mo, .slice A n c]] w fun e w' => ∃ v, e = .returned v ∧ Made w' kd fl dl mo (l.map (·.1)) v ∧ Below w.heap.size w w' := by
 obtain ⟨W0, hW0⟩ : ∃ W0, W0 = w.alloc (.cells #[.int .u8 kd, .bool fl, .bool dl, .bool mo, .slice A n c] 30) := ⟨_, rfl⟩
 have hb : Below w.heap.size w W0 := bq hW0
 have C40 := Lib.hid fun (W : World) (hW : Below w.heap.size w W) => c40m hk dl mo A n c l W ((h.below hW).more hW.size) hok hbs hn
 have C41 := Lib.hid fun (W : World) (hW : Below w.heap.size w W) => c41m hk dl mo A n c l W ((h.below hW).more hW.size) hok hbs hn
 have x0 : W0.cell? ⟨w.heap.size, 0, none⟩ = some (.int .u8 kd) := by rw [hW0]; simp [go_sem]
 have x1 : W0.cell? ⟨w.heap.size, 1, none⟩ = some (.bool fl) := by rw [hW0]; simp [go_sem]
 have x2 : W0.cell? ⟨w.heap.size, 2, none⟩ = some (.bool dl) := by rw [hW0]; simp [go_sem]
 have x3 : W0.cell? ⟨w.heap.size, 3, none⟩ = some (.bool mo) := by rw [hW0]; simp [go_sem]
 have x4 : W0.cell? ⟨w.heap.size, 4, none⟩ = some (.slice A n c) := by rw [hW0]; simp [go_sem]
 have HB := Lib.hid hb
 have HW := Lib.hid hW0
 clear hb hW0 h hok hbs hk
 go_enter Tryz.func23, Tryz.ntmps23
 go_upto_region 1 with fail
 rw [← HW.out]
 clear HW
 cases fl
 · as_aux_lemma => (
 go_wp2_with (go_at_call 41; (with_reducible refine (C41.out _ HB.out).mono ?_); rintro e w1 ⟨v, rfl, hv, hb1⟩)
 go_ret
 exact ⟨_, rfl, hv, below_then HB.out HB.out.size hb1⟩)
 · as_aux_lemma => (
 go_wp2_with (go_at_call 40; (with_reducible refine (C40.out _ HB.out).mono ?_); rintro e w1 ⟨v, rfl, hv, hb1⟩)
 go_ret
 exact ⟨_, rfl, hv, below_then HB.out HB.out.size hb1⟩)
set_option maxRecDepth 100000 in
set_option maxHeartbeats 2000000 in
theorem c11k {k1 k2 : Int} (hk1 : KindOk k1) (hk2 : KindOk k2) (f1 f2 d1 d2 m1 m2 : Bool) (A1 A2 : Option Addr) (n1 c1 n2 c2 : Nat) (l1 l2 : List (Dot × Sl5)) (it iv : Bool) (w : World) (h1 : DotsR w w.heap.size A1 n1 c1 l1) (h2 : DotsR w w.heap.size A2 n2 c2 l2)
 (hok1 : ∀ x ∈ l1, AttrsOk x.1.attrs) (hbs1 : ∀ x ∈ l1, x.1.bounds.length ≤ 900) (hn1 : n1 ≤ 900) (hok2 : ∀ x ∈ l2, AttrsOk x.1.attrs) (hbs2 : ∀ x ∈ l2, x.1.bounds.length ≤ 900) (hn2 : n2 ≤ 900) (hT : Lib.Utf8Tabs 3 4 w) (hT4 : 4 < w.heap.size) :
 Calls Tryz.prog 11 #[.agg #[.int .u8 k1, .bool f1, .bool d1, .bool m1, .slice A1 n1 c1], .agg #[.int .u8 k2, .bool f2, .bool d2, .bool m2, .slice A2 n2 c2], .bool it, .bool iv] w fun e w' => e = .returned (.bool (headK k1 k2 f1 f2 d1 d2 m1 m2 && ((l1.map (·.1)).length == (l2.map (·.1)).length && greedy (sameDot k1 f1 it iv) (l1.map (·.1)) (l2.map (·.1))))) ∧ Below w.heap.size w w' := by
 have hl1 : ∀ x ∈ l1.map (·.1), x.Ok := fun x hx => by
  obtain ⟨y, hy, rfl⟩ := List.mem_map.1 hx
  exact (h1.all y hy).ok
 have hl2 : ∀ x ∈ l2.map (·.1), x.Ok := fun x hx => by
  obtain ⟨y, hy, rfl⟩ := List.mem_map.1 hx
  exact (h2.all y hy).ok
 have CA := Lib.hid fun (W : World) (hW : Below w.heap.size w W) => c23 hk1 f1 d1 m1 A1 n1 c1 l1 W ((h1.below hW).more hW.size) hok1 hbs1 hn1
 have CB := Lib.hid fun (W : World) (hW : Below w.heap.size w W) => c23 hk2 f2 d2 m2 A2 n2 c2 l2 W ((h2.below hW).more hW.size) hok2 hbs2 hn2
 have CC := Lib.hid fun (W : World) (a b : Value) (hW : Below w.heap.size w W) (ha : Made W k1 f1 d1 m1 (l1.map (·.1)) a) (hb : Made W k2 f2 d2 m2 (l2.map (·.1)) b) => c22m hk1 hk2 it iv ha hb hl1 hl2 (utf8_below hT hT4 hW) (Nat.lt_of_lt_of_le hT4 hW.size)
 generalize (headK k1 k2 f1 f2 d1 d2 m1 m2 && ((l1.map (·.1)).length == (l2.map (·.1)).length && greedy (sameDot k1 f1 it iv) (l1.map (·.1)) (l2.map (·.1)))) = D at CC ⊢
 obtain ⟨W0, hW0⟩ : ∃ W0, W0 = (w.alloc (.cells #[.int .u8 k1, .bool f1, .bool d1, .bool m1, .slice A1 n1 c1] 30)).alloc (.cells #[.int .u8 k2, .bool f2, .bool d2, .bool m2, .slice A2 n2 c2] 30) := ⟨_, rfl⟩
 have hb : Below w.heap.size w W0 := by rw [hW0]; exact ((Below.refl _ _).alloc (Nat.le_refl _) _).alloc (by simp) _
 have x0 : W0.cell? ⟨w.heap.size, 0, none⟩ = some (.int .u8 k1) := by rw [hW0]; simp [go_sem]
 have x1 : W0.cell? ⟨w.heap.size, 1, none⟩ = some (.bool f1) := by rw [hW0]; simp [go_sem]
 have x2 : W0.cell? ⟨w.heap.size, 2, none⟩ = some (.bool d1) := by rw [hW0]; simp [go_sem]
 have x3 : W0.cell? ⟨w.heap.size, 3, none⟩ = some (.bool m1) := by rw [hW0]; simp [go_sem]
 have x4 : W0.cell? ⟨w.heap.size, 4, none⟩ = some (.slice A1 n1 c1) := by rw [hW0]; simp [go_sem]
 have y0 : W0.cell? ⟨w.heap.size + 1, 0, none⟩ = some (.int .u8 k2) := by rw [hW0]; simp [go_sem]
 have y1 : W0.cell? ⟨w.heap.size + 1, 1, none⟩ = some (.bool f2) := by rw [hW0]; simp [go_sem]
 have y2 : W0.cell? ⟨w.heap.size + 1, 2, none⟩ = some (.bool d2) := by rw [hW0]; simp [go_sem]
 have y3 : W0.cell? ⟨w.heap.size + 1, 3, none⟩ = some (.bool m2) := by rw [hW0]; simp [go_sem]
 have y4 : W0.cell? ⟨w.heap.size + 1, 4, none⟩ = some (.slice A2 n2 c2) := by rw [hW0]; simp [go_sem]
 have hs0 : W0.heap.size = w.heap.size + 2 := by rw [hW0]; simp
 have HB := Lib.hid hb
 have HW := Lib.hid hW0
 have HS := Lib.hid hs0
 clear hb hW0 h1 h2 hok1 hok2 hbs1 hbs2 hk1 hk2 hT hl1 hl2 hs0
 go_enter Tryz.func11, Tryz.ntmps11
 go_upto_region 1 with fail
 rw [← HW.out]
 clear HW
 as_aux_lemma => (
 first
  | (go_region_held3 (fun w' => w'.cell? ⟨w.heap.size, 0, none⟩ = some (.int .u8 k1) ∧ w'.cell? ⟨w.heap.size, 1, none⟩ = some (.bool f1) ∧ w'.cell? ⟨w.heap.size, 2, none⟩ = some (.bool d1) ∧ w'.cell? ⟨w.heap.size, 3, none⟩ = some (.bool m1) ∧ w'.cell? ⟨w.heap.size, 4, none⟩ = some (.slice A1 n1 c1) ∧ w'.cell? ⟨w.heap.size + 1, 0, none⟩ = some (.int .u8 k2) ∧ w'.cell? ⟨w.heap.size + 1, 1, none⟩ = some (.bool f2) ∧ w'.cell? ⟨w.heap.size + 1, 2, none⟩ = some (.bool d2) ∧ w'.cell? ⟨w.heap.size + 1, 3, none⟩ = some (.bool m2) ∧ w'.cell? ⟨w.heap.size + 1, 4, none⟩ = some (.slice A2 n2 c2)) (first | exact ⟨x0, x1, x2, x3, x4, y0, y1, y2, y3, y4⟩ | exact ⟨cellk (w := W0.drew) x0 hb1, cellk (w := W0.drew) x1 hb1, cellk (w := W0.drew) x2 hb1, cellk (w := W0.drew) x3 hb1, cellk (w := W0.drew) x4 hb1, cellk (w := W0.drew) y0 hb1, cellk (w := W0.drew) y1 hb1, cellk (w := W0.drew) y2 hb1, cellk (w := W0.drew) y3 hb1, cellk (w := W0.drew) y4 hb1⟩ | exact ⟨cellk (w := W0.drew) x0 hq2, cellk (w := W0.drew) x1 hq2, cellk (w := W0.drew) x2 hq2, cellk (w := W0.drew) x3 hq2, cellk (w := W0.drew) x4 hq2, cellk (w := W0.drew) y0 hq2, cellk (w := W0.drew) y1 hq2, cellk (w := W0.drew) y2 hq2, cellk (w := W0.drew) y3 hq2, cellk (w := W0.drew) y4 hq2⟩ | exact ⟨cellk (w := W0.drew) x0 hq3, cellk (w := W0.drew) x1 hq3, cellk (w := W0.drew) x2 hq3, cellk (w := W0.drew) x3 hq3, cellk (w := W0.drew) x4 hq3, cellk (w := W0.drew) y0 hq3, cellk (w := W0.drew) y1 hq3, cellk (w := W0.drew) y2 hq3, cellk (w := W0.drew) y3 hq3, cellk (w := W0.drew) y4 hq3⟩)
   (first
    | (go_at_call 23; (with_reducible refine (CA.out _ (below_drew HB.out)).mono ?_); rintro e w1 ⟨va, rfl, hva, hb1⟩; have hbA := below_then (below_drew HB.out) (below_drew HB.out).size hb1)
    | (go_at_call 23; (with_reducible refine (CB.out _ hbA).mono ?_); rintro e w2 ⟨vb, rfl, hvb, hb2⟩; have hbB := below_then hbA hbA.size hb2; have hq2 := below_then hb1 hb1.size hb2)
    | (go_at_call 22; (with_reducible refine (CC.out _ _ _ hbB (hva.below hb2) hvb).mono ?_); rintro e w3 ⟨rfl, hb3⟩; have hbC := below_then hbB hbB.size hb3; have hq3 := below_then hq2 hq2.size hb3)))
  | fail
 all_goals go_wp2_with fail
 all_goals go_ret
 all_goals exact ⟨rfl, hbC⟩)
end Go.Proofs.YtlpddogcnpokfaaGreatDoor
