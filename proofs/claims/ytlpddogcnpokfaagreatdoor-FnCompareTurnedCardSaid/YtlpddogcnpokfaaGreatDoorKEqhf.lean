/- Contracts of functions of the program, for the comparison of aggregations (part KEqhf). -/
import Derived.Test.YtlpddogcnpokfaaGreatDoorKJs2
set_option linter.all false
namespace Go.Proofs.YtlpddogcnpokfaaGreatDoor
open Go.RowKit
set_option maxRecDepth 100000 in
set_option maxHeartbeats 4000000 in
theorem c117 (x y : Dot) (s t : Sl5) (it iv : Bool) (w : World) (hx : PtR w w.heap.size x s) (hy : PtR w w.heap.size y t) (hT : Lib.Utf8Tabs 3 4 w) (hT4 : 4 < w.heap.size) :
 Calls Tryz.prog 117 #[.agg #[.int .u64 (hashL x.attrs), .slice s.a.A s.a.n s.a.c, .int .i64 x.start, .int .i64 x.time, .int .u64 x.count, .slice s.b.A s.b.n s.b.c, .slice s.k.A s.k.n s.k.c, .float .f64 (x.min).toNat, .bool x.hasMin, .float .f64 (x.max).toNat, .bool x.hasMax, .float .f64 (x.sum).toNat, .slice none 0 0], .agg #[.int .u64 (hashL y.attrs), .slice t.a.A t.a.n t.a.c, .int .i64 y.start, .int .i64 y.time, .int .u64 y.count, .slice t.b.A t.b.n t.b.c, .slice t.k.A t.k.n t.k.c, .float .f64 (y.min).toNat, .bool y.hasMin, .float .f64 (y.max).toNat, .bool y.hasMax, .float .f64 (y.sum).toNat, .slice none 0 0], .agg #[.bool it, .bool iv]] w fun e w' => ∃ v n, e = .returned v ∧ Rs w w' v n ∧ n ≤ 9 ∧ (n = 0 ↔ ((listEq keq x.attrs y.attrs && (it || (x.start == y.start && x.time == y.time))) && (iv || ((((((x.count == y.count) && (listEq (dVal true) x.bounds y.bounds)) && (listEq (fun a b : Int => a == b) x.buckets y.buckets)) && (dExt true x.hasMin y.hasMin x.min y.min)) && (dExt true x.hasMax y.hasMax x.max y.max)) && (dVal true x.sum y.sum)))) = true) := by
 obtain ⟨W0, hW0⟩ : ∃ W0, W0 = ((w.alloc (.cells #[.int .u64 (hashL x.attrs), .slice s.a.A s.a.n s.a.c, .int .i64 x.start, .int .i64 x.time, .int .u64 x.count, .slice s.b.A s.b.n s.b.c, .slice s.k.A s.k.n s.k.c, .float .f64 (x.min).toNat, .bool x.hasMin, .float .f64 (x.max).toNat, .bool x.hasMax, .float .f64 (x.sum).toNat, .slice none 0 0] 162)).alloc (.cells #[.int .u64 (hashL y.attrs), .slice t.a.A t.a.n t.a.c, .int .i64 y.start, .int .i64 y.time, .int .u64 y.count, .slice t.b.A t.b.n t.b.c, .slice t.k.A t.k.n t.k.c, .float .f64 (y.min).toNat, .bool y.hasMin, .float .f64 (y.max).toNat, .bool y.hasMax, .float .f64 (y.sum).toNat, .slice none 0 0] 162)).alloc (.cells #[.bool it, .bool iv] 101) := ⟨_, rfl⟩
 have hb : Below w.heap.size w W0 := by rw [hW0]; exact (((Below.refl _ _).alloc (Nat.le_refl _) _).alloc (by simp) _).alloc (by simp; omega) _
 have x0 : W0.cell? ⟨w.heap.size, 0, none⟩ = some (.int .u64 (hashL x.attrs)) := by rw [hW0]; simp [go_sem]
 have x1 : W0.cell? ⟨w.heap.size, 1, none⟩ = some (.slice s.a.A s.a.n s.a.c) := by rw [hW0]; simp [go_sem]
 have x2 : W0.cell? ⟨w.heap.size, 2, none⟩ = some (.int .i64 x.start) := by rw [hW0]; simp [go_sem]
 have x3 : W0.cell? ⟨w.heap.size, 3, none⟩ = some (.int .i64 x.time) := by rw [hW0]; simp [go_sem]
 have x4 : W0.cell? ⟨w.heap.size, 4, none⟩ = some (.int .u64 x.count) := by rw [hW0]; simp [go_sem]
 have x5 : W0.cell? ⟨w.heap.size, 5, none⟩ = some (.slice s.b.A s.b.n s.b.c) := by rw [hW0]; simp [go_sem]
 have x6 : W0.cell? ⟨w.heap.size, 6, none⟩ = some (.slice s.k.A s.k.n s.k.c) := by rw [hW0]; simp [go_sem]
 have x7 : W0.cell? ⟨w.heap.size, 7, none⟩ = some (.float .f64 (x.min).toNat) := by rw [hW0]; simp [go_sem]
 have x8 : W0.cell? ⟨w.heap.size, 8, none⟩ = some (.bool x.hasMin) := by rw [hW0]; simp [go_sem]
 have x9 : W0.cell? ⟨w.heap.size, 9, none⟩ = some (.float .f64 (x.max).toNat) := by rw [hW0]; simp [go_sem]
 have x10 : W0.cell? ⟨w.heap.size, 10, none⟩ = some (.bool x.hasMax) := by rw [hW0]; simp [go_sem]
 have x11 : W0.cell? ⟨w.heap.size, 11, none⟩ = some (.float .f64 (x.sum).toNat) := by rw [hW0]; simp [go_sem]
 have y0 : W0.cell? ⟨w.heap.size + 1, 0, none⟩ = some (.int .u64 (hashL y.attrs)) := by rw [hW0]; simp [go_sem]
 have y1 : W0.cell? ⟨w.heap.size + 1, 1, none⟩ = some (.slice t.a.A t.a.n t.a.c) := by rw [hW0]; simp [go_sem]
 have y2 : W0.cell? ⟨w.heap.size + 1, 2, none⟩ = some (.int .i64 y.start) := by rw [hW0]; simp [go_sem]
 have y3 : W0.cell? ⟨w.heap.size + 1, 3, none⟩ = some (.int .i64 y.time) := by rw [hW0]; simp [go_sem]
 have y4 : W0.cell? ⟨w.heap.size + 1, 4, none⟩ = some (.int .u64 y.count) := by rw [hW0]; simp [go_sem]
 have y5 : W0.cell? ⟨w.heap.size + 1, 5, none⟩ = some (.slice t.b.A t.b.n t.b.c) := by rw [hW0]; simp [go_sem]
 have y6 : W0.cell? ⟨w.heap.size + 1, 6, none⟩ = some (.slice t.k.A t.k.n t.k.c) := by rw [hW0]; simp [go_sem]
 have y7 : W0.cell? ⟨w.heap.size + 1, 7, none⟩ = some (.float .f64 (y.min).toNat) := by rw [hW0]; simp [go_sem]
 have y8 : W0.cell? ⟨w.heap.size + 1, 8, none⟩ = some (.bool y.hasMin) := by rw [hW0]; simp [go_sem]
 have y9 : W0.cell? ⟨w.heap.size + 1, 9, none⟩ = some (.float .f64 (y.max).toNat) := by rw [hW0]; simp [go_sem]
 have y10 : W0.cell? ⟨w.heap.size + 1, 10, none⟩ = some (.bool y.hasMax) := by rw [hW0]; simp [go_sem]
 have y11 : W0.cell? ⟨w.heap.size + 1, 11, none⟩ = some (.float .f64 (y.sum).toNat) := by rw [hW0]; simp [go_sem]
 have z0 : W0.cell? ⟨w.heap.size + 1 + 1, 0, none⟩ = some (.bool it) := by rw [hW0]; simp [go_sem]
 have z1 : W0.cell? ⟨w.heap.size + 1 + 1, 1, none⟩ = some (.bool iv) := by rw [hW0]; simp [go_sem]
 have X0 := Lib.hid x0
 have X1 := Lib.hid x1
 have X2 := Lib.hid x2
 have X3 := Lib.hid x3
 have X4 := Lib.hid x4
 have X5 := Lib.hid x5
 have X6 := Lib.hid x6
 have X7 := Lib.hid x7
 have X8 := Lib.hid x8
 have X9 := Lib.hid x9
 have X10 := Lib.hid x10
 have X11 := Lib.hid x11
 have Y0 := Lib.hid y0
 have Y1 := Lib.hid y1
 have Y2 := Lib.hid y2
 have Y3 := Lib.hid y3
 have Y4 := Lib.hid y4
 have Y5 := Lib.hid y5
 have Y6 := Lib.hid y6
 have Y7 := Lib.hid y7
 have Y8 := Lib.hid y8
 have Y9 := Lib.hid y9
 have Y10 := Lib.hid y10
 have Y11 := Lib.hid y11
 have Z0 := Lib.hid z0
 have Z1 := Lib.hid z1
 have hx0 := (hx.below hb).more hb.size
 have hy0 := (hy.below hb).more hb.size
 have C38 := Lib.hid (c38 x.attrs y.attrs s.a t.a w.heap.size (w.heap.size + 1) W0 hx0.set hy0.set x0 x1 y0 y1)
 have C99a := Lib.hid fun (W : World) (hW : Below W0.heap.size W0 W) => c99 x.attrs s.a w.heap.size W ((hx0.set.below hW).more hW.size) (utf8_below hT hT4 (below_then hb hb.size hW)) (Nat.lt_of_lt_of_le hT4 (below_then hb hb.size hW).size) (cellk x0 hW) (cellk x1 hW)
 have C99b := Lib.hid fun (W : World) (hW : Below W0.heap.size W0 W) => c99 y.attrs t.a (w.heap.size + 1) W ((hy0.set.below hW).more hW.size) (utf8_below hT hT4 (below_then hb hb.size hW)) (Nat.lt_of_lt_of_le hT4 (below_then hb hb.size hW).size) (cellk y0 hW) (cellk y1 hW)
 have HX := Lib.hid hx0
 have HY := Lib.hid hy0
 have HB := Lib.hid hb
 have HW := Lib.hid hW0
 have HR := Lib.hid (Rs.nil W0)
 obtain ⟨L0, hL0⟩ : ∃ L : Bool, L = (listEq keq x.attrs y.attrs) := ⟨_, rfl⟩
 obtain ⟨La, hLa⟩ : ∃ L : Bool, L = (x.start == y.start) := ⟨_, rfl⟩
 obtain ⟨Lb, hLb⟩ : ∃ L : Bool, L = (x.time == y.time) := ⟨_, rfl⟩
 obtain ⟨L1, hL1⟩ : ∃ L : Bool, L = (x.count == y.count) := ⟨_, rfl⟩
 obtain ⟨L2, hL2⟩ : ∃ L : Bool, L = (listEq (dVal true) x.bounds y.bounds) := ⟨_, rfl⟩
 obtain ⟨L3, hL3⟩ : ∃ L : Bool, L = (listEq (fun a b : Int => a == b) x.buckets y.buckets) := ⟨_, rfl⟩
 obtain ⟨L4, hL4⟩ : ∃ L : Bool, L = (dExt true x.hasMin y.hasMin x.min y.min) := ⟨_, rfl⟩
 obtain ⟨L5, hL5⟩ : ∃ L : Bool, L = (dExt true x.hasMax y.hasMax x.max y.max) := ⟨_, rfl⟩
 obtain ⟨L6, hL6⟩ : ∃ L : Bool, L = (dVal true x.sum y.sum) := ⟨_, rfl⟩
 rw [← hL0] at C38
 have C145a := Lib.hid fun (W : World) => c145 x.start y.start W
 have C145b := Lib.hid fun (W : World) => c145 x.time y.time W
 rw [← hLa] at C145a
 rw [← hLb] at C145b
 have eL1 : (x.count != y.count) = !L1 := by rw [hL1]; rfl
 have CL2 := Lib.hid fun (W : World) (hW : Below W0.heap.size W0 W) => c141 s.b.A t.b.A s.b.n t.b.n s.b.c t.b.c x.bounds y.bounds W ((hx0.b.below hW).more hW.size) ((hy0.b.below hW).more hW.size)
 rw [← hL2] at CL2
 have CL3 := Lib.hid fun (W : World) (hW : Below W0.heap.size W0 W) => c45 s.k.A t.k.A s.k.n t.k.n s.k.c t.k.c x.buckets y.buckets W ((hx0.k.below hW).more hW.size) ((hy0.k.below hW).more hW.size)
 rw [← hL3] at CL3
 have CL4 := Lib.hid fun (W : World) => c147 (x.min).toNat (y.min).toNat x.hasMin y.hasMin W
 have qL4 : (x.hasMin == y.hasMin && (!x.hasMin || Op.floatEq .f64 (x.min).toNat (y.min).toNat)) = L4 := hL4.symm
 rw [qL4] at CL4
 clear qL4
 have CL5 := Lib.hid fun (W : World) => c147 (x.max).toNat (y.max).toNat x.hasMax y.hasMax W
 have qL5 : (x.hasMax == y.hasMax && (!x.hasMax || Op.floatEq .f64 (x.max).toNat (y.max).toNat)) = L5 := hL5.symm
 rw [qL5] at CL5
 clear qL5
 have eL6 : (FloatKind.f64.format.order (x.sum).toNat (y.sum).toNat != some Ordering.eq) = !L6 := by rw [hL6]; rfl
 have HL0 := Lib.hid hL0
 have HLa := Lib.hid hLa
 have HLb := Lib.hid hLb
 have HL1 := Lib.hid hL1
 have HL2 := Lib.hid hL2
 have HL3 := Lib.hid hL3
 have HL4 := Lib.hid hL4
 have HL5 := Lib.hid hL5
 have HL6 := Lib.hid hL6
 clear hT hx hy hx0 hy0 hb hW0 hL0 hLa hLb hL1 hL2 hL3 hL4 hL5 hL6
 go_enter Tryz.func117, Tryz.ntmps117
 go_upto_region 1 with fail
 rw [← HW.out]
 clear HW
 have HN : Hid (0 ≤ 0) := Lib.hid (Nat.le_refl 0)
 go_upto_if 10 with (go_at_call 38; (with_reducible refine (C38.out).mono ?_); rintro e w1 ⟨rfl, hb1⟩; replace x0 := cellk x0 hb1; replace x1 := cellk x1 hb1; replace x2 := cellk x2 hb1; replace x3 := cellk x3 hb1; replace x4 := cellk x4 hb1; replace x5 := cellk x5 hb1; replace x6 := cellk x6 hb1; replace x7 := cellk x7 hb1; replace x8 := cellk x8 hb1; replace x9 := cellk x9 hb1; replace x10 := cellk x10 hb1; replace x11 := cellk x11 hb1; replace y0 := cellk y0 hb1; replace y1 := cellk y1 hb1; replace y2 := cellk y2 hb1; replace y3 := cellk y3 hb1; replace y4 := cellk y4 hb1; replace y5 := cellk y5 hb1; replace y6 := cellk y6 hb1; replace y7 := cellk y7 hb1; replace y8 := cellk y8 hb1; replace y9 := cellk y9 hb1; replace y10 := cellk y10 hb1; replace y11 := cellk y11 hb1; replace z0 := cellk z0 hb1; replace z1 := cellk z1 hb1; have HR := Lib.hid (HR.out.below hb1))
 go_cut [6] from 7 (fun s6 wx => ∃ n, Rs W0 wx s6 n ∧ n ≤ 1 ∧ (n = 0 ↔ L0 = true))
 case first => (
 as_aux_lemma => (
 cases L0
 all_goals go_wp2_with (first | (go_at_call 99; (with_reducible refine (C99a.out _ HR.out.bel).mono ?_); rintro e w1 ⟨⟨t1, rfl⟩, hb1⟩; have HR := Lib.hid (HR.out.below hb1)) | (go_at_call 99; (with_reducible refine (C99b.out _ HR.out.bel).mono ?_); rintro e w1 ⟨⟨t1, rfl⟩, hb1⟩; have HR := Lib.hid (HR.out.below hb1)) | (go_at_call 57; refine (c57 _ (by decide) _ _ _).mono ?_; rintro e w2 ⟨⟨t2, rfl⟩, rfl⟩) | (at_builtin; refine wpList_reason_new HR.out (by have := HN.out; omega) rfl _ _ rfl rfl rfl ?_ ?_; (first | rfl | omega); intro v1 w1 hr1))
 all_goals go_meet
 · exact ⟨_, hr1, by have := HN.out; omega, by simp⟩
 · exact ⟨_, HR.out, by have := HN.out; omega, by simp⟩))
 case rest => (
 obtain ⟨n, hr, hn, hq⟩ := hcut
 obtain ⟨wk1, rfl⟩ : ∃ wk1 : World, wk1 = wc := ⟨_, rfl⟩
 have hbw := hr.bel
 replace x0 := cellk X0.out hbw
 replace x1 := cellk X1.out hbw
 replace x2 := cellk X2.out hbw
 replace x3 := cellk X3.out hbw
 replace x4 := cellk X4.out hbw
 replace x5 := cellk X5.out hbw
 replace x6 := cellk X6.out hbw
 replace x7 := cellk X7.out hbw
 replace x8 := cellk X8.out hbw
 replace x9 := cellk X9.out hbw
 replace x10 := cellk X10.out hbw
 replace x11 := cellk X11.out hbw
 replace y0 := cellk Y0.out hbw
 replace y1 := cellk Y1.out hbw
 replace y2 := cellk Y2.out hbw
 replace y3 := cellk Y3.out hbw
 replace y4 := cellk Y4.out hbw
 replace y5 := cellk Y5.out hbw
 replace y6 := cellk Y6.out hbw
 replace y7 := cellk Y7.out hbw
 replace y8 := cellk Y8.out hbw
 replace y9 := cellk Y9.out hbw
 replace y10 := cellk Y10.out hbw
 replace y11 := cellk Y11.out hbw
 replace z0 := cellk Z0.out hbw
 replace z1 := cellk Z1.out hbw
 replace HR := Lib.hid hr
 have HQ := Lib.hid hq
 replace HN := Lib.hid hn
 clear hr hn hq hbw
 as_aux_lemma => (
 go_upto_if 23 with fail
 go_cut [6] from 7 (fun s6 wx => ∃ n, Rs W0 wx s6 n ∧ n ≤ 3 ∧ (n = 0 ↔ (L0 && (it || (La && Lb))) = true))
 case first => (
 cases it
 case true => (
 go_wp2_with fail
 go_meet
 exact ⟨_, HR.out, by have := HN.out; omega, by rw [HQ.out]; simp⟩)
 case false => (
 go_upto_if 29 with (go_at_call 145; (with_reducible refine (C145a.out _).mono ?_); rintro e w1 ⟨rfl, hb1⟩; replace x0 := cellk x0 hb1; replace x1 := cellk x1 hb1; replace x2 := cellk x2 hb1; replace x3 := cellk x3 hb1; replace x4 := cellk x4 hb1; replace x5 := cellk x5 hb1; replace x6 := cellk x6 hb1; replace x7 := cellk x7 hb1; replace x8 := cellk x8 hb1; replace x9 := cellk x9 hb1; replace x10 := cellk x10 hb1; replace x11 := cellk x11 hb1; replace y0 := cellk y0 hb1; replace y1 := cellk y1 hb1; replace y2 := cellk y2 hb1; replace y3 := cellk y3 hb1; replace y4 := cellk y4 hb1; replace y5 := cellk y5 hb1; replace y6 := cellk y6 hb1; replace y7 := cellk y7 hb1; replace y8 := cellk y8 hb1; replace y9 := cellk y9 hb1; replace y10 := cellk y10 hb1; replace y11 := cellk y11 hb1; replace z0 := cellk z0 hb1; replace z1 := cellk z1 hb1; have HR := Lib.hid (HR.out.below hb1))
 go_cut [6] from 7 (fun s6 wx => ∃ n, Rs W0 wx s6 n ∧ n ≤ 2 ∧ (n = 0 ↔ (L0 && La) = true))
 case first => (
 as_aux_lemma => (
 cases La
 all_goals go_wp2_with (first | (go_at_call 57; refine (c57 _ (by decide) _ _ _).mono ?_; rintro e w2 ⟨⟨t2, rfl⟩, rfl⟩) | (at_builtin; refine wpList_reason_new HR.out (by have := HN.out; omega) rfl _ _ rfl rfl rfl ?_ ?_; (first | rfl | omega); intro v1 w1 hr1))
 all_goals go_meet
 · exact ⟨_, hr1, by have := HN.out; omega, by simp⟩
 · exact ⟨_, HR.out, by have := HN.out; omega, by rw [HQ.out]; simp⟩))
 case rest => (
 obtain ⟨n, hr, hn, hq⟩ := hcut
 obtain ⟨wk2, rfl⟩ : ∃ wk2 : World, wk2 = wc := ⟨_, rfl⟩
 have hbw := hr.bel
 replace x0 := cellk X0.out hbw
 replace x1 := cellk X1.out hbw
 replace x2 := cellk X2.out hbw
 replace x3 := cellk X3.out hbw
 replace x4 := cellk X4.out hbw
 replace x5 := cellk X5.out hbw
 replace x6 := cellk X6.out hbw
 replace x7 := cellk X7.out hbw
 replace x8 := cellk X8.out hbw
 replace x9 := cellk X9.out hbw
 replace x10 := cellk X10.out hbw
 replace x11 := cellk X11.out hbw
 replace y0 := cellk Y0.out hbw
 replace y1 := cellk Y1.out hbw
 replace y2 := cellk Y2.out hbw
 replace y3 := cellk Y3.out hbw
 replace y4 := cellk Y4.out hbw
 replace y5 := cellk Y5.out hbw
 replace y6 := cellk Y6.out hbw
 replace y7 := cellk Y7.out hbw
 replace y8 := cellk Y8.out hbw
 replace y9 := cellk Y9.out hbw
 replace y10 := cellk Y10.out hbw
 replace y11 := cellk Y11.out hbw
 replace z0 := cellk Z0.out hbw
 replace z1 := cellk Z1.out hbw
 replace HR := Lib.hid hr
 have HQ := Lib.hid hq
 replace HN := Lib.hid hn
 clear hr hn hq hbw
 as_aux_lemma => (
 go_upto_if 47 with (go_at_call 145; (with_reducible refine (C145b.out _).mono ?_); rintro e w1 ⟨rfl, hb1⟩; replace x0 := cellk x0 hb1; replace x1 := cellk x1 hb1; replace x2 := cellk x2 hb1; replace x3 := cellk x3 hb1; replace x4 := cellk x4 hb1; replace x5 := cellk x5 hb1; replace x6 := cellk x6 hb1; replace x7 := cellk x7 hb1; replace x8 := cellk x8 hb1; replace x9 := cellk x9 hb1; replace x10 := cellk x10 hb1; replace x11 := cellk x11 hb1; replace y0 := cellk y0 hb1; replace y1 := cellk y1 hb1; replace y2 := cellk y2 hb1; replace y3 := cellk y3 hb1; replace y4 := cellk y4 hb1; replace y5 := cellk y5 hb1; replace y6 := cellk y6 hb1; replace y7 := cellk y7 hb1; replace y8 := cellk y8 hb1; replace y9 := cellk y9 hb1; replace y10 := cellk y10 hb1; replace y11 := cellk y11 hb1; replace z0 := cellk z0 hb1; replace z1 := cellk z1 hb1; have HR := Lib.hid (HR.out.below hb1))
 go_cut [6] from 7 (fun s6 wx => ∃ n, Rs W0 wx s6 n ∧ n ≤ 3 ∧ (n = 0 ↔ (L0 && La && Lb) = true))
 case first => (
 as_aux_lemma => (
 cases Lb
 all_goals go_wp2_with (first | (go_at_call 57; refine (c57 _ (by decide) _ _ _).mono ?_; rintro e w2 ⟨⟨t2, rfl⟩, rfl⟩) | (at_builtin; refine wpList_reason_new HR.out (by have := HN.out; omega) rfl _ _ rfl rfl rfl ?_ ?_; (first | rfl | omega); intro v1 w1 hr1))
 all_goals go_meet
 · exact ⟨_, hr1, by have := HN.out; omega, by simp⟩
 · exact ⟨_, HR.out, by have := HN.out; omega, by rw [HQ.out]; simp⟩))
 case rest => (
 obtain ⟨n, hr, hn, hq⟩ := hcut
 obtain ⟨wk3, rfl⟩ : ∃ wk3 : World, wk3 = wc := ⟨_, rfl⟩
 have hbw := hr.bel
 replace x0 := cellk X0.out hbw
 replace x1 := cellk X1.out hbw
 replace x2 := cellk X2.out hbw
 replace x3 := cellk X3.out hbw
 replace x4 := cellk X4.out hbw
 replace x5 := cellk X5.out hbw
 replace x6 := cellk X6.out hbw
 replace x7 := cellk X7.out hbw
 replace x8 := cellk X8.out hbw
 replace x9 := cellk X9.out hbw
 replace x10 := cellk X10.out hbw
 replace x11 := cellk X11.out hbw
 replace y0 := cellk Y0.out hbw
 replace y1 := cellk Y1.out hbw
 replace y2 := cellk Y2.out hbw
 replace y3 := cellk Y3.out hbw
 replace y4 := cellk Y4.out hbw
 replace y5 := cellk Y5.out hbw
 replace y6 := cellk Y6.out hbw
 replace y7 := cellk Y7.out hbw
 replace y8 := cellk Y8.out hbw
 replace y9 := cellk Y9.out hbw
 replace y10 := cellk Y10.out hbw
 replace y11 := cellk Y11.out hbw
 replace z0 := cellk Z0.out hbw
 replace z1 := cellk Z1.out hbw
 replace HR := Lib.hid hr
 have HQ := Lib.hid hq
 replace HN := Lib.hid hn
 clear hr hn hq hbw
 as_aux_lemma => (
 go_wp2_with fail
 go_meet
 exact ⟨_, HR.out, by have := HN.out; omega, by rw [HQ.out]; simp [Bool.and_assoc]⟩))))))
 case rest => (
 obtain ⟨n, hr, hn, hq⟩ := hcut
 obtain ⟨wk3, rfl⟩ : ∃ wk3 : World, wk3 = wc := ⟨_, rfl⟩
 have hbw := hr.bel
 replace x0 := cellk X0.out hbw
 replace x1 := cellk X1.out hbw
 replace x2 := cellk X2.out hbw
 replace x3 := cellk X3.out hbw
 replace x4 := cellk X4.out hbw
 replace x5 := cellk X5.out hbw
 replace x6 := cellk X6.out hbw
 replace x7 := cellk X7.out hbw
 replace x8 := cellk X8.out hbw
 replace x9 := cellk X9.out hbw
 replace x10 := cellk X10.out hbw
 replace x11 := cellk X11.out hbw
 replace y0 := cellk Y0.out hbw
 replace y1 := cellk Y1.out hbw
 replace y2 := cellk Y2.out hbw
 replace y3 := cellk Y3.out hbw
 replace y4 := cellk Y4.out hbw
 replace y5 := cellk Y5.out hbw
 replace y6 := cellk Y6.out hbw
 replace y7 := cellk Y7.out hbw
 replace y8 := cellk Y8.out hbw
 replace y9 := cellk Y9.out hbw
 replace y10 := cellk Y10.out hbw
 replace y11 := cellk Y11.out hbw
 replace z0 := cellk Z0.out hbw
 replace z1 := cellk Z1.out hbw
 replace HR := Lib.hid hr
 have HQ := Lib.hid hq
 replace HN := Lib.hid hn
 clear hr hn hq hbw
 as_aux_lemma => (
 go_upto_if 62 with fail
 go_cut [6] from 7 (fun s6 wx => ∃ n, Rs W0 wx s6 n ∧ n ≤ 9 ∧ (n = 0 ↔ ((L0 && (it || (La && Lb))) && (iv || (((((L1 && L2) && L3) && L4) && L5) && L6))) = true))
 case first => (
 cases iv
 case true => (
 go_wp2_with fail
 go_meet
 exact ⟨_, HR.out, by have := HN.out; omega, by rw [HQ.out]; simp⟩)
 case false => (
 go_upto_if 67 with fail
 go_cut [6] from 7 (fun s6 wx => ∃ n, Rs W0 wx s6 n ∧ n ≤ 4 ∧ (n = 0 ↔ ((L0 && (it || (La && Lb))) && L1) = true))
 case first => (
 as_aux_lemma => (
 cases L1
 all_goals go_wp2_with (first | (go_at_call 57; refine (c57 _ (by decide) _ _ _).mono ?_; rintro e w2 ⟨⟨t2, rfl⟩, rfl⟩) | (at_builtin; refine wpList_reason_new HR.out (by have := HN.out; omega) rfl _ _ rfl rfl rfl ?_ ?_; (first | rfl | omega); intro v1 w1 hr1))
 all_goals go_meet
 · exact ⟨_, hr1, by have := HN.out; omega, by simp⟩
 · exact ⟨_, HR.out, by have := HN.out; omega, by rw [HQ.out]; simp⟩))
 case rest => (
 obtain ⟨n, hr, hn, hq⟩ := hcut
 obtain ⟨wk4, rfl⟩ : ∃ wk4 : World, wk4 = wc := ⟨_, rfl⟩
 have hbw := hr.bel
 replace x0 := cellk X0.out hbw
 replace x1 := cellk X1.out hbw
 replace x2 := cellk X2.out hbw
 replace x3 := cellk X3.out hbw
 replace x4 := cellk X4.out hbw
 replace x5 := cellk X5.out hbw
 replace x6 := cellk X6.out hbw
 replace x7 := cellk X7.out hbw
 replace x8 := cellk X8.out hbw
 replace x9 := cellk X9.out hbw
 replace x10 := cellk X10.out hbw
 replace x11 := cellk X11.out hbw
 replace y0 := cellk Y0.out hbw
 replace y1 := cellk Y1.out hbw
 replace y2 := cellk Y2.out hbw
 replace y3 := cellk Y3.out hbw
 replace y4 := cellk Y4.out hbw
 replace y5 := cellk Y5.out hbw
 replace y6 := cellk Y6.out hbw
 replace y7 := cellk Y7.out hbw
 replace y8 := cellk Y8.out hbw
 replace y9 := cellk Y9.out hbw
 replace y10 := cellk Y10.out hbw
 replace y11 := cellk Y11.out hbw
 replace z0 := cellk Z0.out hbw
 replace z1 := cellk Z1.out hbw
 replace HR := Lib.hid hr
 have HQ := Lib.hid hq
 replace HN := Lib.hid hn
 clear hr hn hq hbw
 as_aux_lemma => (
 go_upto_if 83 with (go_at_call 141; (with_reducible refine (CL2.out _ HR.out.bel).mono ?_); rintro e w1 ⟨rfl, hb1⟩; replace x0 := cellk x0 hb1; replace x1 := cellk x1 hb1; replace x2 := cellk x2 hb1; replace x3 := cellk x3 hb1; replace x4 := cellk x4 hb1; replace x5 := cellk x5 hb1; replace x6 := cellk x6 hb1; replace x7 := cellk x7 hb1; replace x8 := cellk x8 hb1; replace x9 := cellk x9 hb1; replace x10 := cellk x10 hb1; replace x11 := cellk x11 hb1; replace y0 := cellk y0 hb1; replace y1 := cellk y1 hb1; replace y2 := cellk y2 hb1; replace y3 := cellk y3 hb1; replace y4 := cellk y4 hb1; replace y5 := cellk y5 hb1; replace y6 := cellk y6 hb1; replace y7 := cellk y7 hb1; replace y8 := cellk y8 hb1; replace y9 := cellk y9 hb1; replace y10 := cellk y10 hb1; replace y11 := cellk y11 hb1; replace z0 := cellk z0 hb1; replace z1 := cellk z1 hb1; have HR := Lib.hid (HR.out.below hb1))
 go_cut [6] from 7 (fun s6 wx => ∃ n, Rs W0 wx s6 n ∧ n ≤ 5 ∧ (n = 0 ↔ (((L0 && (it || (La && Lb))) && L1) && L2) = true))
 case first => (
 as_aux_lemma => (
 cases L2
 all_goals go_wp2_with (first | (go_at_call 57; refine (c57 _ (by decide) _ _ _).mono ?_; rintro e w2 ⟨⟨t2, rfl⟩, rfl⟩) | (at_builtin; refine wpList_reason_new HR.out (by have := HN.out; omega) rfl _ _ rfl rfl rfl ?_ ?_; (first | rfl | omega); intro v1 w1 hr1))
 all_goals go_meet
 · exact ⟨_, hr1, by have := HN.out; omega, by simp⟩
 · exact ⟨_, HR.out, by have := HN.out; omega, by rw [HQ.out]; simp⟩))
 case rest => (
 obtain ⟨n, hr, hn, hq⟩ := hcut
 obtain ⟨wk5, rfl⟩ : ∃ wk5 : World, wk5 = wc := ⟨_, rfl⟩
 have hbw := hr.bel
 replace x0 := cellk X0.out hbw
 replace x1 := cellk X1.out hbw
 replace x2 := cellk X2.out hbw
 replace x3 := cellk X3.out hbw
 replace x4 := cellk X4.out hbw
 replace x5 := cellk X5.out hbw
 replace x6 := cellk X6.out hbw
 replace x7 := cellk X7.out hbw
 replace x8 := cellk X8.out hbw
 replace x9 := cellk X9.out hbw
 replace x10 := cellk X10.out hbw
 replace x11 := cellk X11.out hbw
 replace y0 := cellk Y0.out hbw
 replace y1 := cellk Y1.out hbw
 replace y2 := cellk Y2.out hbw
 replace y3 := cellk Y3.out hbw
 replace y4 := cellk Y4.out hbw
 replace y5 := cellk Y5.out hbw
 replace y6 := cellk Y6.out hbw
 replace y7 := cellk Y7.out hbw
 replace y8 := cellk Y8.out hbw
 replace y9 := cellk Y9.out hbw
 replace y10 := cellk Y10.out hbw
 replace y11 := cellk Y11.out hbw
 replace z0 := cellk Z0.out hbw
 replace z1 := cellk Z1.out hbw
 replace HR := Lib.hid hr
 have HQ := Lib.hid hq
 replace HN := Lib.hid hn
 clear hr hn hq hbw
 as_aux_lemma => (
 go_upto_if 99 with (go_at_call 45; (with_reducible refine (CL3.out _ HR.out.bel).mono ?_); rintro e w1 ⟨rfl, hb1⟩; replace x0 := cellk x0 hb1; replace x1 := cellk x1 hb1; replace x2 := cellk x2 hb1; replace x3 := cellk x3 hb1; replace x4 := cellk x4 hb1; replace x5 := cellk x5 hb1; replace x6 := cellk x6 hb1; replace x7 := cellk x7 hb1; replace x8 := cellk x8 hb1; replace x9 := cellk x9 hb1; replace x10 := cellk x10 hb1; replace x11 := cellk x11 hb1; replace y0 := cellk y0 hb1; replace y1 := cellk y1 hb1; replace y2 := cellk y2 hb1; replace y3 := cellk y3 hb1; replace y4 := cellk y4 hb1; replace y5 := cellk y5 hb1; replace y6 := cellk y6 hb1; replace y7 := cellk y7 hb1; replace y8 := cellk y8 hb1; replace y9 := cellk y9 hb1; replace y10 := cellk y10 hb1; replace y11 := cellk y11 hb1; replace z0 := cellk z0 hb1; replace z1 := cellk z1 hb1; have HR := Lib.hid (HR.out.below hb1))
 go_cut [6] from 7 (fun s6 wx => ∃ n, Rs W0 wx s6 n ∧ n ≤ 6 ∧ (n = 0 ↔ ((((L0 && (it || (La && Lb))) && L1) && L2) && L3) = true))
 case first => (
 as_aux_lemma => (
 cases L3
 all_goals go_wp2_with (first | (go_at_call 57; refine (c57 _ (by decide) _ _ _).mono ?_; rintro e w2 ⟨⟨t2, rfl⟩, rfl⟩) | (at_builtin; refine wpList_reason_new HR.out (by have := HN.out; omega) rfl _ _ rfl rfl rfl ?_ ?_; (first | rfl | omega); intro v1 w1 hr1))
 all_goals go_meet
 · exact ⟨_, hr1, by have := HN.out; omega, by simp⟩
 · exact ⟨_, HR.out, by have := HN.out; omega, by rw [HQ.out]; simp⟩))
 case rest => (
 obtain ⟨n, hr, hn, hq⟩ := hcut
 obtain ⟨wk6, rfl⟩ : ∃ wk6 : World, wk6 = wc := ⟨_, rfl⟩
 have hbw := hr.bel
 replace x0 := cellk X0.out hbw
 replace x1 := cellk X1.out hbw
 replace x2 := cellk X2.out hbw
 replace x3 := cellk X3.out hbw
 replace x4 := cellk X4.out hbw
 replace x5 := cellk X5.out hbw
 replace x6 := cellk X6.out hbw
 replace x7 := cellk X7.out hbw
 replace x8 := cellk X8.out hbw
 replace x9 := cellk X9.out hbw
 replace x10 := cellk X10.out hbw
 replace x11 := cellk X11.out hbw
 replace y0 := cellk Y0.out hbw
 replace y1 := cellk Y1.out hbw
 replace y2 := cellk Y2.out hbw
 replace y3 := cellk Y3.out hbw
 replace y4 := cellk Y4.out hbw
 replace y5 := cellk Y5.out hbw
 replace y6 := cellk Y6.out hbw
 replace y7 := cellk Y7.out hbw
 replace y8 := cellk Y8.out hbw
 replace y9 := cellk Y9.out hbw
 replace y10 := cellk Y10.out hbw
 replace y11 := cellk Y11.out hbw
 replace z0 := cellk Z0.out hbw
 replace z1 := cellk Z1.out hbw
 replace HR := Lib.hid hr
 have HQ := Lib.hid hq
 replace HN := Lib.hid hn
 clear hr hn hq hbw
 as_aux_lemma => (
 go_upto_if 115 with (go_at_call 147; (with_reducible refine (CL4.out _).mono ?_); rintro e w1 ⟨rfl, hb1⟩; replace x0 := cellk x0 hb1; replace x1 := cellk x1 hb1; replace x2 := cellk x2 hb1; replace x3 := cellk x3 hb1; replace x4 := cellk x4 hb1; replace x5 := cellk x5 hb1; replace x6 := cellk x6 hb1; replace x7 := cellk x7 hb1; replace x8 := cellk x8 hb1; replace x9 := cellk x9 hb1; replace x10 := cellk x10 hb1; replace x11 := cellk x11 hb1; replace y0 := cellk y0 hb1; replace y1 := cellk y1 hb1; replace y2 := cellk y2 hb1; replace y3 := cellk y3 hb1; replace y4 := cellk y4 hb1; replace y5 := cellk y5 hb1; replace y6 := cellk y6 hb1; replace y7 := cellk y7 hb1; replace y8 := cellk y8 hb1; replace y9 := cellk y9 hb1; replace y10 := cellk y10 hb1; replace y11 := cellk y11 hb1; replace z0 := cellk z0 hb1; replace z1 := cellk z1 hb1; have HR := Lib.hid (HR.out.below hb1))
 go_cut [6] from 7 (fun s6 wx => ∃ n, Rs W0 wx s6 n ∧ n ≤ 7 ∧ (n = 0 ↔ (((((L0 && (it || (La && Lb))) && L1) && L2) && L3) && L4) = true))
 case first => (
 as_aux_lemma => (
 cases L4
 all_goals go_wp2_with (first | (go_at_call 57; refine (c57 _ (by decide) _ _ _).mono ?_; rintro e w2 ⟨⟨t2, rfl⟩, rfl⟩) | (at_builtin; refine wpList_reason_new HR.out (by have := HN.out; omega) rfl _ _ rfl rfl rfl ?_ ?_; (first | rfl | omega); intro v1 w1 hr1))
 all_goals go_meet
 · exact ⟨_, hr1, by have := HN.out; omega, by simp⟩
 · exact ⟨_, HR.out, by have := HN.out; omega, by rw [HQ.out]; simp⟩))
 case rest => (
 obtain ⟨n, hr, hn, hq⟩ := hcut
 obtain ⟨wk7, rfl⟩ : ∃ wk7 : World, wk7 = wc := ⟨_, rfl⟩
 have hbw := hr.bel
 replace x0 := cellk X0.out hbw
 replace x1 := cellk X1.out hbw
 replace x2 := cellk X2.out hbw
 replace x3 := cellk X3.out hbw
 replace x4 := cellk X4.out hbw
 replace x5 := cellk X5.out hbw
 replace x6 := cellk X6.out hbw
 replace x7 := cellk X7.out hbw
 replace x8 := cellk X8.out hbw
 replace x9 := cellk X9.out hbw
 replace x10 := cellk X10.out hbw
 replace x11 := cellk X11.out hbw
 replace y0 := cellk Y0.out hbw
 replace y1 := cellk Y1.out hbw
 replace y2 := cellk Y2.out hbw
 replace y3 := cellk Y3.out hbw
 replace y4 := cellk Y4.out hbw
 replace y5 := cellk Y5.out hbw
 replace y6 := cellk Y6.out hbw
 replace y7 := cellk Y7.out hbw
 replace y8 := cellk Y8.out hbw
 replace y9 := cellk Y9.out hbw
 replace y10 := cellk Y10.out hbw
 replace y11 := cellk Y11.out hbw
 replace z0 := cellk Z0.out hbw
 replace z1 := cellk Z1.out hbw
 replace HR := Lib.hid hr
 have HQ := Lib.hid hq
 replace HN := Lib.hid hn
 clear hr hn hq hbw
 as_aux_lemma => (
 go_upto_if 131 with (go_at_call 147; (with_reducible refine (CL5.out _).mono ?_); rintro e w1 ⟨rfl, hb1⟩; replace x0 := cellk x0 hb1; replace x1 := cellk x1 hb1; replace x2 := cellk x2 hb1; replace x3 := cellk x3 hb1; replace x4 := cellk x4 hb1; replace x5 := cellk x5 hb1; replace x6 := cellk x6 hb1; replace x7 := cellk x7 hb1; replace x8 := cellk x8 hb1; replace x9 := cellk x9 hb1; replace x10 := cellk x10 hb1; replace x11 := cellk x11 hb1; replace y0 := cellk y0 hb1; replace y1 := cellk y1 hb1; replace y2 := cellk y2 hb1; replace y3 := cellk y3 hb1; replace y4 := cellk y4 hb1; replace y5 := cellk y5 hb1; replace y6 := cellk y6 hb1; replace y7 := cellk y7 hb1; replace y8 := cellk y8 hb1; replace y9 := cellk y9 hb1; replace y10 := cellk y10 hb1; replace y11 := cellk y11 hb1; replace z0 := cellk z0 hb1; replace z1 := cellk z1 hb1; have HR := Lib.hid (HR.out.below hb1))
 go_cut [6] from 7 (fun s6 wx => ∃ n, Rs W0 wx s6 n ∧ n ≤ 8 ∧ (n = 0 ↔ ((((((L0 && (it || (La && Lb))) && L1) && L2) && L3) && L4) && L5) = true))
 case first => (
 as_aux_lemma => (
 cases L5
 all_goals go_wp2_with (first | (go_at_call 57; refine (c57 _ (by decide) _ _ _).mono ?_; rintro e w2 ⟨⟨t2, rfl⟩, rfl⟩) | (at_builtin; refine wpList_reason_new HR.out (by have := HN.out; omega) rfl _ _ rfl rfl rfl ?_ ?_; (first | rfl | omega); intro v1 w1 hr1))
 all_goals go_meet
 · exact ⟨_, hr1, by have := HN.out; omega, by simp⟩
 · exact ⟨_, HR.out, by have := HN.out; omega, by rw [HQ.out]; simp⟩))
 case rest => (
 obtain ⟨n, hr, hn, hq⟩ := hcut
 obtain ⟨wk8, rfl⟩ : ∃ wk8 : World, wk8 = wc := ⟨_, rfl⟩
 have hbw := hr.bel
 replace x0 := cellk X0.out hbw
 replace x1 := cellk X1.out hbw
 replace x2 := cellk X2.out hbw
 replace x3 := cellk X3.out hbw
 replace x4 := cellk X4.out hbw
 replace x5 := cellk X5.out hbw
 replace x6 := cellk X6.out hbw
 replace x7 := cellk X7.out hbw
 replace x8 := cellk X8.out hbw
 replace x9 := cellk X9.out hbw
 replace x10 := cellk X10.out hbw
 replace x11 := cellk X11.out hbw
 replace y0 := cellk Y0.out hbw
 replace y1 := cellk Y1.out hbw
 replace y2 := cellk Y2.out hbw
 replace y3 := cellk Y3.out hbw
 replace y4 := cellk Y4.out hbw
 replace y5 := cellk Y5.out hbw
 replace y6 := cellk Y6.out hbw
 replace y7 := cellk Y7.out hbw
 replace y8 := cellk Y8.out hbw
 replace y9 := cellk Y9.out hbw
 replace y10 := cellk Y10.out hbw
 replace y11 := cellk Y11.out hbw
 replace z0 := cellk Z0.out hbw
 replace z1 := cellk Z1.out hbw
 replace HR := Lib.hid hr
 have HQ := Lib.hid hq
 replace HN := Lib.hid hn
 clear hr hn hq hbw
 as_aux_lemma => (
 go_upto_if 146 with fail
 go_cut [6] from 7 (fun s6 wx => ∃ n, Rs W0 wx s6 n ∧ n ≤ 9 ∧ (n = 0 ↔ (((((((L0 && (it || (La && Lb))) && L1) && L2) && L3) && L4) && L5) && L6) = true))
 case first => (
 as_aux_lemma => (
 cases L6
 all_goals go_wp2_with (first | (go_at_call 57; refine (c57 _ (by decide) _ _ _).mono ?_; rintro e w2 ⟨⟨t2, rfl⟩, rfl⟩) | (at_builtin; refine wpList_reason_new HR.out (by have := HN.out; omega) rfl _ _ rfl rfl rfl ?_ ?_; (first | rfl | omega); intro v1 w1 hr1))
 all_goals go_meet
 · exact ⟨_, hr1, by have := HN.out; omega, by simp⟩
 · exact ⟨_, HR.out, by have := HN.out; omega, by rw [HQ.out]; simp⟩))
 case rest => (
 obtain ⟨n, hr, hn, hq⟩ := hcut
 obtain ⟨wk9, rfl⟩ : ∃ wk9 : World, wk9 = wc := ⟨_, rfl⟩
 have hbw := hr.bel
 replace x0 := cellk X0.out hbw
 replace x1 := cellk X1.out hbw
 replace x2 := cellk X2.out hbw
 replace x3 := cellk X3.out hbw
 replace x4 := cellk X4.out hbw
 replace x5 := cellk X5.out hbw
 replace x6 := cellk X6.out hbw
 replace x7 := cellk X7.out hbw
 replace x8 := cellk X8.out hbw
 replace x9 := cellk X9.out hbw
 replace x10 := cellk X10.out hbw
 replace x11 := cellk X11.out hbw
 replace y0 := cellk Y0.out hbw
 replace y1 := cellk Y1.out hbw
 replace y2 := cellk Y2.out hbw
 replace y3 := cellk Y3.out hbw
 replace y4 := cellk Y4.out hbw
 replace y5 := cellk Y5.out hbw
 replace y6 := cellk Y6.out hbw
 replace y7 := cellk Y7.out hbw
 replace y8 := cellk Y8.out hbw
 replace y9 := cellk Y9.out hbw
 replace y10 := cellk Y10.out hbw
 replace y11 := cellk Y11.out hbw
 replace z0 := cellk Z0.out hbw
 replace z1 := cellk Z1.out hbw
 replace HR := Lib.hid hr
 have HQ := Lib.hid hq
 replace HN := Lib.hid hn
 clear hr hn hq hbw
 as_aux_lemma => (
 go_wp2_with fail
 go_meet
 exact ⟨_, HR.out, by have := HN.out; omega, by rw [HQ.out]; simp [Bool.and_assoc]⟩))))))))))))))
 case rest => (
 obtain ⟨n, hr, hn, hq⟩ := hcut
 obtain ⟨wk9, rfl⟩ : ∃ wk9 : World, wk9 = wc := ⟨_, rfl⟩
 have hbw := hr.bel
 replace x0 := cellk X0.out hbw
 replace x1 := cellk X1.out hbw
 replace x2 := cellk X2.out hbw
 replace x3 := cellk X3.out hbw
 replace x4 := cellk X4.out hbw
 replace x5 := cellk X5.out hbw
 replace x6 := cellk X6.out hbw
 replace x7 := cellk X7.out hbw
 replace x8 := cellk X8.out hbw
 replace x9 := cellk X9.out hbw
 replace x10 := cellk X10.out hbw
 replace x11 := cellk X11.out hbw
 replace y0 := cellk Y0.out hbw
 replace y1 := cellk Y1.out hbw
 replace y2 := cellk Y2.out hbw
 replace y3 := cellk Y3.out hbw
 replace y4 := cellk Y4.out hbw
 replace y5 := cellk Y5.out hbw
 replace y6 := cellk Y6.out hbw
 replace y7 := cellk Y7.out hbw
 replace y8 := cellk Y8.out hbw
 replace y9 := cellk Y9.out hbw
 replace y10 := cellk Y10.out hbw
 replace y11 := cellk Y11.out hbw
 replace z0 := cellk Z0.out hbw
 replace z1 := cellk Z1.out hbw
 replace HR := Lib.hid hr
 have HQ := Lib.hid hq
 replace HN := Lib.hid hn
 clear hr hn hq hbw
 as_aux_lemma => (
 go_wp2_with fail
 go_ret
 refine ⟨_, _, rfl, HR.out.outer HB.out, HN.out, ?_⟩
 rw [HQ.out, HL0.out, HLa.out, HLb.out, HL1.out, HL2.out, HL3.out, HL4.out, HL5.out, HL6.out]))))))
end Go.Proofs.YtlpddogcnpokfaaGreatDoor
