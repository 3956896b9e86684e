/- Contracts of functions of the program, for the comparison of aggregations (part KA7). -/
import Derived.Test.YtlpddogcnpokfaaGreatDoorKA6
import Derived.Test.YtlpddogcnpokfaaGreatDoorKA4
import Derived.Deep.QuietTactic
import Derived.BigQuiet
import Derived.Laws.OwnMore
set_option linter.all false
namespace Go.Proofs.YtlpddogcnpokfaaGreatDoor
open Go.RowKit
section
/-! ### Whether two attributes are the same -/
theorem nilA32 (w : World) : (Instr.typeAssert .nilIface 20 32 true).run Tryz.prog w = .ok (.tuple #[.slice none 0 0, .bool false]) w := by kernel_rfl
theorem nilA255 (w : World) : (Instr.typeAssert .nilIface 20 255 true).run Tryz.prog w = .ok (.tuple #[.slice none 0 0, .bool false]) w := by kernel_rfl
theorem nilA158 (w : World) : (Instr.typeAssert .nilIface 20 158 true).run Tryz.prog w = .ok (.tuple #[.slice none 0 0, .bool false]) w := by kernel_rfl
theorem nilA98 (w : World) : (Instr.typeAssert .nilIface 20 98 true).run Tryz.prog w = .ok (.tuple #[.slice none 0 0, .bool false]) w := by kernel_rfl
theorem nilA262 (w : World) : (Instr.typeAssert .nilIface 20 262 true).run Tryz.prog w = .ok (.tuple #[.slice none 0 0, .bool false]) w := by kernel_rfl
theorem nilA78 (w : World) : (Instr.typeAssert .nilIface 20 78 true).run Tryz.prog w = .ok (.tuple #[.slice none 0 0, .bool false]) w := by kernel_rfl
attribute [local go_sem] nilA32 nilA255 nilA158 nilA98 nilA262 nilA78
set_option maxRecDepth 100000 in
set_option maxHeartbeats 1000000 in
theorem c96 (s t : ByteArray) (w : World) : Calls Tryz.prog 96 #[.agg #[.int .i64 4, .int .u64 0, .string s, .nilIface], .agg #[.int .i64 4, .int .u64 0, .string t, .nilIface]] w fun e w' => e = .returned (.bool (s.toList == t.toList)) ∧ Below w.heap.size w w' := by
 go_enter Tryz.func96, Tryz.ntmps96
 go_wp2_with fail
 all_goals go_ret
 all_goals exact ⟨ret_b (by simp_all), ((Below.refl _ _).alloc (Nat.le_refl _) _).alloc (by simp) _⟩
/-- Two attributes are the same, as the package sees it: strings. -/
def keq (x y : KV) : Bool := x.key.toList == y.key.toList && x.str.toList == y.str.toList
set_option maxRecDepth 100000 in
set_option maxHeartbeats 1000000 in
theorem c95 (x y : KV) (hx : x.ty = 4 ∧ x.num = 0) (hy : y.ty = 4 ∧ y.num = 0) (w : World) : Calls Tryz.prog 95 #[.agg (enc5 x).toArray, .agg (enc5 y).toArray] w fun e w' => e = .returned (.bool (keq x y)) ∧ Below w.heap.size w w' := by
 obtain ⟨k, t, n, s⟩ := x
 obtain ⟨k', t', n', s'⟩ := y
 obtain ⟨rfl, rfl⟩ := hx
 obtain ⟨rfl, rfl⟩ := hy
 unfold keq enc5
 dsimp only
 go_enter Tryz.func95, Tryz.ntmps95
 go_wp2_with (go_at_call 96; refine (c96 _ _ _).mono ?_; rintro e w1 ⟨rfl, hb1⟩)
 all_goals go_ret
 · exact ⟨ret_b (by simp_all), below_then (((Below.refl _ _).alloc (Nat.le_refl _) _).alloc (by simp) _) (by simp; omega) hb1⟩
 · exact ⟨ret_b (by simp_all), ((Below.refl _ _).alloc (Nat.le_refl _) _).alloc (by simp) _⟩
theorem info87x : (Tryz.prog.info? 87).map (·.size) = some 5 := by kernel_rfl
def IsStr (x : KV) : Prop := x.ty = 4 ∧ x.num = 0
set_option maxRecDepth 100000 in
set_option maxHeartbeats 1000000 in
theorem c94 (A1 A2 : Option Addr) (n1 n2 k1 k2 : Nat) (xs ys : List KV) (w : World) (h1 : Rd w w.heap.size 5 A1 n1 k1 (xs.map enc5)) (h2 : Rd w w.heap.size 5 A2 n2 k2 (ys.map enc5)) (hx4 : ∀ x ∈ xs, IsStr x) (hy4 : ∀ x ∈ ys, IsStr x) :
 Calls Tryz.prog 94 #[.slice A1 n1 k1, .slice A2 n2 k2, .func (.func 95) #[] #[]] w fun e w' => e = .returned (.bool (listEq keq xs ys)) ∧ Below w.heap.size w w' := by
 have l1 := h1.numlen
 have l2 := h2.numlen
 have b1 := h1.cap
 have b2 := h2.cap
 have t1 := h1.top
 have t2 := h2.top
 by_cases hn : n1 = n2
 · (
 have hl : Hid (xs.length = ys.length) := by unfold Hid; omega
 subst hn
 have l1' := Lib.hid l1
 have l2' := Lib.hid l2
 have H1 := Lib.hid h1
 have H2 := Lib.hid h2
 have HX := Lib.hid hx4
 have HY := Lib.hid hy4
 clear l1 l2 h1 h2 hx4 hy4
 go_enter Tryz.func94, Tryz.ntmps94
 go_wp2_with fail
 go_loopw [17] (fun i wr => ∃ k : Nat, k ≤ n1 ∧ i = .int .i64 k ∧ SameTo keq xs ys k ∧ Below w.heap.size w wr) (fun i _ => n1 - (intOf i).toNat)
 case atStart => exact ⟨0, Nat.zero_le _, rfl, SameTo.zero, Below.refl _ _⟩
 case round => (
 obtain ⟨k, hk, rfl, hs, hb⟩ := hrel
 obtain ⟨wo, rfl⟩ : ∃ wo : World, wo = wr := ⟨_, rfl⟩
 by_cases hlt : k < n1
 · (
 obtain ⟨ba, oa, r1, rfl, hlta, hx, _, ca⟩ := (H1.out.below hb).at_ hlt
 obtain ⟨bb, ob, r2, rfl, hltb, hy, _, cb⟩ := (H2.out.below hb).at_ hlt
 rw [List.getElem?_map, Option.map_eq_some_iff] at hx hy
 obtain ⟨x, hx, rfl⟩ := hx
 obtain ⟨y, hy, rfl⟩ := hy
 obtain ⟨cx, hcx⟩ : ∃ cx, cx = (enc5 x).toArray := ⟨_, rfl⟩
 obtain ⟨cy, hcy⟩ : ∃ cy, cy = (enc5 y).toArray := ⟨_, rfl⟩
 have sx : cx.size = 5 := by rw [hcx]; rfl
 have sy : cy.size = 5 := by rw [hcy]; rfl
 have oc1 : cx.toList.all (·.oneCell') = true := by rw [hcx]; rfl
 have oc2 : cy.toList.all (·.oneCell') = true := by rw [hcy]; rfl
 have ca2 : wo.rangeAt ba (oa + k * 5) cx.toList := by rw [hcx]; exact ca
 have hbn : Below wo.heap.size wo (wo.alloc (.cells cx 87)) := (Below.refl _ _).alloc (Nat.le_refl _) _
 have hwo := hb.size
 have cb2 : (wo.alloc (.cells cx 87)).rangeAt bb (ob + k * 5) cy.toList := by
  rw [hcy]
  exact fun j v hv => cellk (cb j v hv) hbn
 have z1 : ((wo.alloc (.cells cx 87)).alloc (.cells cy 87)).heap[wo.heap.size]? = some (.cells cx 87 (0, 0)) := by
  rw [Below.heap_alloc _ _ _ (by simp)]; exact heap_alloc_new wo _
 have z2 : ((wo.alloc (.cells cx 87)).alloc (.cells cy 87)).heap[wo.heap.size + 1]? = some (.cells cy 87 (0, 0)) := by
  have := heap_alloc_new (wo.alloc (.cells cx 87)) (.cells cy 87)
  simpa using this
 have C95 := Lib.hid (c95 x y (HX.out x (List.mem_of_getElem? hx)) (HY.out y (List.mem_of_getElem? hy)) ((wo.alloc (.cells cx 87)).alloc (.cells cy 87)))
 rw [← hcx, ← hcy] at C95
 have hbw : Below w.heap.size w ((wo.alloc (.cells cx 87)).alloc (.cells cy 87)) := (hb.alloc hb.size _).alloc (by simp; omega) _
 have hsz : w.heap.size ≤ ((wo.alloc (.cells cx 87)).alloc (.cells cy 87)).heap.size := hbw.size
 have hx' := Lib.hid hx
 have hy' := Lib.hid hy
 have HB := Lib.hid hbw
 have HS := Lib.hid hsz
 clear hx hy hcx hcy hbw hbn ca cb hsz
 have hi0 : (0 : Int) ≤ (k : Int) := by omega
 have hi1 : (k : Int) < (n1 : Int) := by omega
 cases hp : keq x y with
 | true =>
  rw [hp] at C95
  have hp' := Lib.hid hp
  clear hp
  go_wp2_with (first
   | (go_at_call 95; refine C95.out.mono ?_; rintro e w1 ⟨rfl, hb1⟩)
   | ((with_reducible refine arm_load_all 5 info87x Tryz.underlying87 z1 ?_ ?_ ?_ ?_); rfl; rfl; exact sx)
   | ((with_reducible refine arm_load_all 5 info87x Tryz.underlying87 z2 ?_ ?_ ?_ ?_); rfl; rfl; exact sy)
   | ((with_reducible refine arm_load ca2 ?_ 5 info87x Tryz.underlying87 ?_ ?_ ?_); rfl; rfl; exact sx)
   | ((with_reducible refine arm_load cb2 ?_ 5 info87x Tryz.underlying87 ?_ ?_ ?_); rfl; rfl; exact sy)
   | ((with_reducible apply arm_store_new 5 info87x); rfl; simp; rfl; rfl; assumption; assumption))
  go_roundw
  case rel => exact ⟨k + 1, by omega, by go_num, hs.succ hx'.out hy'.out hp'.out, below_then HB.out HS.out hb1⟩
  case measure => simp [intOf]; omega
 | false =>
  rw [hp] at C95
  have hp' := Lib.hid hp
  clear hp
  go_wp2_with (first
   | (go_at_call 95; refine C95.out.mono ?_; rintro e w1 ⟨rfl, hb1⟩)
   | ((with_reducible refine arm_load_all 5 info87x Tryz.underlying87 z1 ?_ ?_ ?_ ?_); rfl; rfl; exact sx)
   | ((with_reducible refine arm_load_all 5 info87x Tryz.underlying87 z2 ?_ ?_ ?_ ?_); rfl; rfl; exact sy)
   | ((with_reducible refine arm_load ca2 ?_ 5 info87x Tryz.underlying87 ?_ ?_ ?_); rfl; rfl; exact sx)
   | ((with_reducible refine arm_load cb2 ?_ 5 info87x Tryz.underlying87 ?_ ?_ ?_); rfl; rfl; exact sy)
   | ((with_reducible apply arm_store_new 5 info87x); rfl; simp; rfl; rfl; assumption; assumption))
  go_ret
  exact ⟨ret_b (listEq_false_at hx'.out hy'.out hp'.out), below_then HB.out HS.out hb1⟩)
 · (
 go_wp2_with fail
 go_ret
 exact ⟨ret_b (hs.all (by have := l1'.out; omega) hl.out), hb⟩)))
 · (
 go_enter Tryz.func94, Tryz.ntmps94
 go_wp2_with fail
 go_ret
 exact ⟨ret_b (listEq_false_len (by omega)), Below.refl _ _⟩)
theorem c56 (A1 A2 : Option Addr) (n1 n2 k1 k2 : Nat) (xs ys : List KV) (w : World) (h1 : Rd w w.heap.size 5 A1 n1 k1 (xs.map enc5)) (h2 : Rd w w.heap.size 5 A2 n2 k2 (ys.map enc5)) (hx4 : ∀ x ∈ xs, IsStr x) (hy4 : ∀ x ∈ ys, IsStr x) :
 Calls Tryz.prog 56 #[.slice A1 n1 k1, .slice A2 n2 k2] w fun e w' => e = .returned (.bool (listEq keq xs ys)) ∧ Below w.heap.size w w' := by
 have C := Lib.hid (c94 A1 A2 n1 n2 k1 k2 xs ys w h1 h2 hx4 hy4)
 clear h1 h2 hx4 hy4
 go_enter Tryz.func56, Tryz.ntmps56
 go_wp2_with (go_at_call 94; refine C.out.mono ?_; rintro e w1 ⟨rfl, hb1⟩)
 go_ret
 exact ⟨rfl, hb1⟩
/-! ### metricdata, and its comparison: the small functions -/
def numV (fl : Bool) (x : Int) : Value := if fl then .float .f64 x.toNat else .int .i64 (wrap64 x)
theorem c42 (x : Int) (w : World) : Calls Tryz.prog 42 #[.int .u64 x] w fun e w' => e = .returned (numV false x) ∧ w = w' := by
 go_enter Tryz.func42, Tryz.ntmps42
 go_wp2_with fail
 go_ret
 exact ⟨rfl, rfl⟩
theorem c57 (s : ByteArray) (hs : s.size ≤ 1000) (a b : Value) (w : World) : Calls Tryz.prog 57 #[.string s, a, b] w fun e w' => (∃ t, e = .returned (.string t)) ∧ w = w' := by
 go_enter Tryz.func57, Tryz.ntmps57
 go_wp2_with fail
 go_ret
 exact ⟨⟨_, rfl⟩, rfl⟩
theorem eq153 (x y : Int) (w : World) : (binOp .eql 153 (.agg #[.int .i64 x]) (.agg #[.int .i64 y])).run Tryz.prog w = .ok (.bool (x == y)) w := by
 have hS : Tryz.prog.underlying 153 = some (.struct (Tryz.prog.fieldsOf 153)) := by kernel_rfl
 have hp : Tryz.prog.stoodInHeld 153 = false := by kernel_rfl
 rw [run_eql_struct, show (10000 : Nat) = 9999 + 1 from rfl, run_equalIn_agg w 9999 153 _ _ hS hp]
 simp only [Program.fieldsOf, Tryz.underlying153]
 go_simp
 by_cases h : x = y <;> simp [h]
attribute [local go_sem] eq153
theorem c145 (x y : Int) (w : World) : Calls Tryz.prog 145 #[.agg #[.int .i64 x], .agg #[.int .i64 y]] w fun e w' => e = .returned (.bool (x == y)) ∧ Below w.heap.size w w' := by
 go_enter Tryz.func145, Tryz.ntmps145
 go_wp2_with fail
 all_goals go_ret
 all_goals exact ⟨ret_b (by simp_all), ((Below.refl _ _).alloc (Nat.le_refl _) _).alloc (by simp) _⟩
theorem c161 (x : Int) (o : Bool) (w : World) : Calls Tryz.prog 161 #[.agg #[.int .i64 x, .bool o]] w fun e w' => e = .returned (.tuple #[.int .i64 x, .bool o]) ∧ Below w.heap.size w w' := by
 go_enter Tryz.func161, Tryz.ntmps161
 go_wp2_with fail
 go_quiet (fail)
 go_wp2_with fail
 go_ret2
 exact ⟨rfl, below_drewN ((Below.refl _ _).alloc (Nat.le_refl _) _) _⟩
theorem c162 (x : Nat) (o : Bool) (w : World) : Calls Tryz.prog 162 #[.agg #[.float .f64 x, .bool o]] w fun e w' => e = .returned (.tuple #[.float .f64 x, .bool o]) ∧ Below w.heap.size w w' := by
 go_enter Tryz.func162, Tryz.ntmps162
 go_wp2_with fail
 go_quiet (fail)
 go_wp2_with fail
 go_ret2
 exact ⟨rfl, below_drewN ((Below.refl _ _).alloc (Nat.le_refl _) _) _⟩
theorem info173 : (Tryz.prog.info? 173).map (·.size) = some 2 := by kernel_rfl
theorem info160 : (Tryz.prog.info? 160).map (·.size) = some 2 := by kernel_rfl
theorem c68 (x : Nat) (w : World) : Calls Tryz.prog 68 #[.float .f64 x] w fun e w' => e = .returned (.agg #[.float .f64 x, .bool true]) ∧ Below w.heap.size w w' := by
 go_enter Tryz.func68, Tryz.ntmps68
 go_wp2_with ((with_reducible apply arm_store_new 2 info160); rfl; rfl; rfl; rfl; rfl; rfl)
 refine bodyPost_ret (results_cell_row rfl _ _ _ _ _ _ _ rfl (heap_alloc_new w (.cells #[.float .f64 x, .bool true] 160)) Tryz.underlying160 rfl info160) rfl ⟨rfl, (Below.refl _ _).alloc (Nat.le_refl _) _⟩
theorem c70 (x : Int) (w : World) : Calls Tryz.prog 70 #[.int .i64 x] w fun e w' => e = .returned (.agg #[.int .i64 x, .bool true]) ∧ Below w.heap.size w w' := by
 go_enter Tryz.func70, Tryz.ntmps70
 go_wp2_with fail
 refine bodyPost_ret (results_cell_row rfl _ _ _ _ _ _ _ rfl (heap_alloc_new w _) Tryz.underlying173 rfl info173) rfl ⟨rfl, (Below.refl _ _).alloc (Nat.le_refl _) _⟩
set_option maxHeartbeats 400000 in
theorem c146 (x y : Int) (o p : Bool) (w : World) : Calls Tryz.prog 146 #[.agg #[.int .i64 x, .bool o], .agg #[.int .i64 y, .bool p]] w fun e w' => e = .returned (.bool (o == p && (!o || x == y))) ∧ Below w.heap.size w w' := by
 have hb : Below w.heap.size w ((w.alloc (.cells #[.int .i64 x, .bool o] 173)).alloc (.cells #[.int .i64 y, .bool p] 173)) := ((Below.refl _ _).alloc (Nat.le_refl _) _).alloc (by simp) _
 have hz : ((w.alloc (.cells #[.int .i64 x, .bool o] 173)).alloc (.cells #[.int .i64 y, .bool p] 173)).heap[w.heap.size + 1]? = some (.cells #[.int .i64 y, .bool p] 173 (0, 0)) := by
  have := heap_alloc_new (w.alloc (.cells #[.int .i64 x, .bool o] 173)) (.cells #[.int .i64 y, .bool p] 173)
  simpa using this
 have HB := Lib.hid hb
 clear hb
 cases o <;> cases p
 all_goals
  go_enter Tryz.func146, Tryz.ntmps146
  go_wp2_with (first
   | (go_at_call 161; (with_reducible refine (c161 x _ _).mono ?_); rintro e w1 ⟨rfl, hb1⟩; have hz1 := (hb1.block _ (by simp)).trans hz)
   | (go_at_call 161; (with_reducible refine (c161 y _ _).mono ?_); rintro e w2 ⟨rfl, hb2⟩)
   | ((with_reducible refine arm_load_all 2 info173 Tryz.underlying173 hz1 ?_ ?_ ?_ ?_); rfl; rfl; rfl))
 all_goals go_ret
 all_goals exact ⟨ret_b (by simp), below_then (below_then HB.out (by simp; omega) hb1) (by have := hb1.size; simp at this; omega) hb2⟩
set_option maxHeartbeats 400000 in
theorem c147 (x y : Nat) (o p : Bool) (w : World) : Calls Tryz.prog 147 #[.agg #[.float .f64 x, .bool o], .agg #[.float .f64 y, .bool p]] w fun e w' => e = .returned (.bool (o == p && (!o || Op.floatEq .f64 x y))) ∧ Below w.heap.size w w' := by
 have hb : Below w.heap.size w ((w.alloc (.cells #[.float .f64 x, .bool o] 160)).alloc (.cells #[.float .f64 y, .bool p] 160)) := ((Below.refl _ _).alloc (Nat.le_refl _) _).alloc (by simp) _
 have hz : ((w.alloc (.cells #[.float .f64 x, .bool o] 160)).alloc (.cells #[.float .f64 y, .bool p] 160)).heap[w.heap.size + 1]? = some (.cells #[.float .f64 y, .bool p] 160 (0, 0)) := by
  have := heap_alloc_new (w.alloc (.cells #[.float .f64 x, .bool o] 160)) (.cells #[.float .f64 y, .bool p] 160)
  simpa using this
 have HB := Lib.hid hb
 clear hb
 cases o <;> cases p
 all_goals
  go_enter Tryz.func147, Tryz.ntmps147
  go_wp2_with (first
   | (go_at_call 162; (with_reducible refine (c162 x _ _).mono ?_); rintro e w1 ⟨rfl, hb1⟩; have hz1 := (hb1.block _ (by simp)).trans hz)
   | (go_at_call 162; (with_reducible refine (c162 y _ _).mono ?_); rintro e w2 ⟨rfl, hb2⟩)
   | ((with_reducible refine arm_load_all 2 info160 Tryz.underlying160 hz1 ?_ ?_ ?_ ?_); rfl; rfl; rfl))
 all_goals go_ret
 all_goals exact ⟨ret_b (by simp [Op.floatEq]), below_then (below_then HB.out (by simp; omega) hb1) (by have := hb1.size; simp at this; omega) hb2⟩
def encF (x : Int) : List Value := [.float .f64 x.toNat]
theorem Rd.fnum {w : World} {B : Nat} {A : Option Addr} {n c : Nat} {xs : List Int} (h : Rd w B 1 A n c (xs.map encF)) {i : Nat} (hi : i < n) :
 ∃ b o x, A = some ⟨b, o, none⟩ ∧ b < B ∧ xs[i]? = some x ∧ w.cell? ⟨b, o + i, none⟩ = some (.float .f64 x.toNat) := by
 obtain ⟨b, o, r, ha, hb, hr, hl, hc⟩ := h.at_ hi
 rw [List.getElem?_map, Option.map_eq_some_iff] at hr
 obtain ⟨x, hx, rfl⟩ := hr
 have := hc 0 _ rfl
 rw [Nat.mul_one, Nat.add_zero] at this
 exact ⟨b, o, x, ha, hb, hx, this⟩
set_option maxHeartbeats 400000 in
theorem c141 (A1 A2 : Option Addr) (n1 n2 k1 k2 : Nat) (xs ys : List Int) (w : World) (h1 : Rd w w.heap.size 1 A1 n1 k1 (xs.map encF)) (h2 : Rd w w.heap.size 1 A2 n2 k2 (ys.map encF)) :
 Calls Tryz.prog 141 #[.slice A1 n1 k1, .slice A2 n2 k2] w fun e w' => e = .returned (.bool (listEq (dVal true) xs ys)) ∧ Below w.heap.size w w' := by
 have l1 := h1.numlen
 have l2 := h2.numlen
 have b1 := h1.cap
 have b2 := h2.cap
 have t1 := h1.top
 have t2 := h2.top
 by_cases hn : n1 = n2
 · (
 have hl : Hid (xs.length = ys.length) := by unfold Hid; omega
 subst hn
 have l1' := Lib.hid l1
 have l2' := Lib.hid l2
 clear l1 l2
 go_enter Tryz.func141, Tryz.ntmps141
 go_wp2_with fail
 go_loopw [13] (fun i wr => ∃ k : Nat, k ≤ n1 ∧ i = .int .i64 k ∧ SameTo (dVal true) xs ys k ∧ Below w.heap.size w wr) (fun i _ => n1 - (intOf i).toNat)
 case atStart => exact ⟨0, Nat.zero_le _, rfl, SameTo.zero, Below.refl _ _⟩
 case round => (
 obtain ⟨k, hk, rfl, hs, hb⟩ := hrel
 by_cases hlt : k < n1
 · (
 obtain ⟨ba, oa, x, rfl, _, hx, ca⟩ := (h1.below hb).fnum hlt
 obtain ⟨bb, ob, y, rfl, _, hy, cb⟩ := (h2.below hb).fnum hlt
 have hx' := Lib.hid hx
 have hy' := Lib.hid hy
 clear hx hy h1 h2
 have hi0 : (0 : Int) ≤ (k : Int) := by omega
 have hi1 : (k : Int) < (n1 : Int) := by omega
 cases hp : dVal true x y with
 | true =>
  have hq : (FloatKind.f64.format.order x.toNat y.toNat != some Ordering.eq) = false := by show (!(dVal true x y)) = false; rw [hp]; rfl
  have hp' := Lib.hid hp
  go_wp2_with fail
  go_quiet (fail)
  go_wp2_with fail
  go_roundw
  case rel => exact ⟨k + 1, by omega, by go_num, hs.succ hx'.out hy'.out hp'.out, below_drewN hb _⟩
  case measure => simp [intOf]; omega
 | false =>
  have hq : (FloatKind.f64.format.order x.toNat y.toNat != some Ordering.eq) = true := by show (!(dVal true x y)) = true; rw [hp]; rfl
  have hp' := Lib.hid hp
  go_wp2_with fail
  go_quiet (fail)
  go_wp2_with fail
  go_ret
  exact ⟨ret_b (listEq_false_at hx'.out hy'.out hp'.out), below_drewN hb _⟩)
 · (
 go_wp2_with fail
 go_ret
 exact ⟨ret_b (hs.all (by have := l1'.out; omega) hl.out), hb⟩)))
 · (
 go_enter Tryz.func141, Tryz.ntmps141
 go_wp2_with fail
 go_ret
 exact ⟨ret_b (listEq_false_len (by omega)), Below.refl _ _⟩)
end
section
/-! ### The reasons: a list of texts that grows -/
theorem info9 : (Tryz.prog.info? 9).map (fun i => (i.zero, i.size, i.bytes)) = some (some (.string ⟨#[]⟩), 1, 16) := by kernel_rfl
/-- n texts in a slice that is the call's own, begun at the world W0. -/
def Rs (W0 w : World) (v : Value) (n : Nat) : Prop := ∃ rows, w.ownsRow W0.heap.size 9 1 v n rows ∧ (∀ u ∈ rows, u.oneCell' = true) ∧ Below W0.heap.size W0 w
theorem Rs.nil (w : World) : Rs w w (.slice none 0 0) 0 := ⟨[], World.ownsRow_nil _ _ _ _, by simp, Below.refl _ _⟩
theorem Rs.size {W0 w : World} {v : Value} {n : Nat} (h : Rs W0 w v n) : W0.heap.size ≤ w.heap.size := by obtain ⟨_, _, _, h⟩ := h; exact h.size
theorem Rs.bel {W0 w : World} {v : Value} {n : Nat} (h : Rs W0 w v n) : Below W0.heap.size W0 w := by obtain ⟨_, _, _, h⟩ := h; exact h
theorem Rs.below {W0 w w1 : World} {v : Value} {n : Nat} (h : Rs W0 w v n) (hb : Below w.heap.size w w1) : Rs W0 w1 v n := by
 have hs := h.size
 obtain ⟨rows, h1, h2, h3⟩ := h
 exact ⟨rows, own_of_block h1 (fun g hg => hb.block g (h1.lt g hg).2), h2, below_then h3 hs hb⟩
theorem Rs.alloc {W0 w : World} {v : Value} {n : Nat} (h : Rs W0 w v n) (o : Obj) : Rs W0 (w.alloc o) v n := h.below ((Below.refl _ _).alloc (Nat.le_refl _) _)
theorem Rs.slice {W0 w : World} {v : Value} {n : Nat} (h : Rs W0 w v n) : ∃ A c, v = .slice A n c := by
 obtain ⟨rows, h1, _⟩ := h
 exact own_slice h1
theorem Rs.drew {W0 w : World} {v : Value} {n : Nat} (h : Rs W0 w v n) : Rs W0 w.drew v n := h.below ⟨rfl, rfl, rfl, Nat.le_refl _, fun _ _ => rfl⟩
theorem Rs.drewN {W0 w : World} {v : Value} {n : Nat} (h : Rs W0 w v n) (k : Nat) : Rs W0 (w.drewN k) v n := h.below ⟨rfl, rfl, rfl, Nat.le_refl _, fun _ _ => rfl⟩
theorem Rs.grown {W0 w w1 : World} {v : Value} {n m : Nat} {v1 : Value} {rows news : List Value} (h1 : w.ownsRow W0.heap.size 9 1 v n rows) (h2 : ∀ u ∈ rows, u.oneCell' = true) (h3 : Below W0.heap.size W0 w) (hn : ∀ u ∈ news, u.oneCell' = true)
 (ho : w1.ownsRow W0.heap.size 9 1 v1 (n + m) (rows ++ news)) (hg : w.grownBy w1 v.ownBlock) : Rs W0 w1 v1 (n + m) :=
 ⟨rows ++ news, ho, fun u hu => (List.mem_append.1 hu).elim (h2 u) (hn u), h3.grown hg h3.size (fun k hk => (h1.lt k hk).1)⟩
/-- One text more. -/
theorem wpList_reason {ops : Array Oper} {rest : List Oper} {o : Oper} {a : Act} {Q : Exit → Act → World → Prop} {W0 w : World} (hgd : o.guard = none) (s x : Operand)
 (ho : o.op = .call { callee := .builtin .append, args := #[s, x], argTypes := #[98, 98] }) {v : Value} {n g : Nat} {t : ByteArray} (hs : a.eval s = v) (hx : a.eval x = .slice (some ⟨g, 0, none⟩) 1 1)
 (hc : w.cell? ⟨g, 0, none⟩ = some (.string t)) (h : Rs W0 w v n) (hn : n ≤ 100) (H : ∀ v1 w1, Rs W0 w1 v1 (n + 1) → wpList Tryz.prog ops Q rest (a.put o.dst v1) w1) : wpList Tryz.prog ops Q (o :: rest) a w := by
 obtain ⟨rows, h1, h2, h3⟩ := h
 obtain ⟨i0, hi, hz0, hz1, hz2⟩ := info_parts3 info9
 refine wpList_append_own_at _ hgd s x 98 ho W0.heap.size 9 i0 (.string ⟨#[]⟩) 1 16 Tryz.underlying98 hi hz0 hz1 hz2 rfl (by decide) v n rows hs h1 ⟨g, 0, none⟩ 1 1 [.string t] hx rfl ?_ (by simp [Value.oneCell']) (by simp only [maxLen]; omega) (by omega) h3.size ?_
 · (
 intro j u hu
 cases j with
 | zero => simp at hu; subst hu; exact hc
 | succ j => simp at hu)
 · intro v1 w1 hown hg _ _
   exact H v1 w1 (Rs.grown h1 h2 h3 (by simp [Value.oneCell']) hown hg)
/-- The texts of another such list. -/
theorem wpList_reasons {ops : Array Oper} {rest : List Oper} {o : Oper} {a : Act} {Q : Exit → Act → World → Prop} {W0 W1 w : World} (hgd : o.guard = none) (s x : Operand)
 (ho : o.op = .call { callee := .builtin .append, args := #[s, x], argTypes := #[98, 98] }) {v r : Value} {n m : Nat} (hs : a.eval s = v) (hx : a.eval x = r)
 (h : Rs W0 w v n) (hr : Rs W1 w r m) (hm : 0 < m) (hn : n + m ≤ 1000) (H : ∀ v1 w1, Rs W0 w1 v1 (n + m) → wpList Tryz.prog ops Q rest (a.put o.dst v1) w1) : wpList Tryz.prog ops Q (o :: rest) a w := by
 obtain ⟨rows, h1, h2, h3⟩ := h
 obtain ⟨rows', r1, r2, r3⟩ := hr
 obtain ⟨i0, hi, hz0, hz1, hz2⟩ := info_parts3 info9
 obtain ⟨g, cap, rfl, _⟩ := own_some r1 hm
 refine wpList_append_own_at _ hgd s x 98 ho W0.heap.size 9 i0 (.string ⟨#[]⟩) 1 16 Tryz.underlying98 hi hz0 hz1 hz2 rfl (by decide) v n rows hs h1 ⟨g, 0, none⟩ m cap rows' hx (by simpa using r1.1) (r1.cells rfl) r2 (by simp only [maxLen]; omega) (by omega) h3.size ?_
 intro v1 w1 hown hg _ _
 exact H v1 w1 (Rs.grown h1 h2 h3 r2 hown hg)
theorem wpList_reason_new {ops : Array Oper} {rest : List Oper} {o : Oper} {a : Act} {Q : Exit → Act → World → Prop} {W0 w : World} {t : ByteArray} {v : Value} {n : Nat} (h : Rs W0 w v n) (hn : n ≤ 100) (hgd : o.guard = none) (s x : Operand)
 (ho : o.op = .call { callee := .builtin .append, args := #[s, x], argTypes := #[98, 98] }) (hs : a.eval s = v) {g : Nat} (hx : a.eval x = .slice (some ⟨g, 0, none⟩) 1 1)
 (hg : g = w.heap.size) (H : ∀ v1 w1, Rs W0 w1 v1 (n + 1) → wpList Tryz.prog ops Q rest (a.put o.dst v1) w1) : wpList Tryz.prog ops Q (o :: rest) a (w.alloc (.cells #[.string t] 9)) := by
 subst hg
 exact wpList_reason hgd s x ho hs hx (blk_cell (heap_alloc_new w _) 0 _ rfl) (h.alloc _) hn H
theorem Rs.outer {w W0 w1 : World} {v : Value} {n : Nat} (h : Rs W0 w1 v n) (hb : Below w.heap.size w W0) : Rs w w1 v n := by
 obtain ⟨rows, h1, h2, h3⟩ := h
 refine ⟨rows, ⟨h1.1, ?_⟩, h2, below_then hb hb.size h3⟩
 rcases h1.2 with h | ⟨g, cap, cur, e, hB, rest⟩
 · exact .inl h
 · exact .inr ⟨g, cap, cur, e, Nat.le_trans hb.size hB, rest⟩
set_option maxHeartbeats 1000000 in
theorem c148 (o1 o2 : Int) (A1 A2 : Option Addr) (n1 n2 k1 k2 : Nat) (xs ys : List Int) (cfg : Array Value) (w : World) (hcf : cfg.size = 2) (h1 : Rd w w.heap.size 1 A1 n1 k1 (xs.map encU)) (h2 : Rd w w.heap.size 1 A2 n2 k2 (ys.map encU)) :
 Calls Tryz.prog 148 #[.agg #[.int .i32 o1, .slice A1 n1 k1], .agg #[.int .i32 o2, .slice A2 n2 k2], .agg cfg] w fun e w' => ∃ v n, e = .returned v ∧ Rs w w' v n ∧ n ≤ 2 ∧ (n = 0 ↔ (o1 == o2 && listEq (fun a b : Int => a == b) xs ys) = true) := by
 obtain ⟨W0, hW0⟩ : ∃ W0, W0 = ((w.alloc (.cells #[.int .i32 o1, .slice A1 n1 k1] 165)).alloc (.cells #[.int .i32 o2, .slice A2 n2 k2] 165)).alloc (.cells cfg 101) := ⟨_, rfl⟩
 have hb : Below w.heap.size w W0 := by rw [hW0]; exact (((Below.refl _ _).alloc (Nat.le_refl _) _).alloc (by simp) _).alloc (by simp; omega) _
 have hsz : W0.heap.size = w.heap.size + 3 := by rw [hW0]; simp
 have x0 : W0.cell? ⟨w.heap.size, 0, none⟩ = some (.int .i32 o1) := by rw [hW0]; simp [go_sem]
 have x1 : W0.cell? ⟨w.heap.size, 1, none⟩ = some (.slice A1 n1 k1) := by rw [hW0]; simp [go_sem]
 have y0 : W0.cell? ⟨w.heap.size + 1, 0, none⟩ = some (.int .i32 o2) := by rw [hW0]; simp [go_sem]
 have y1 : W0.cell? ⟨w.heap.size + 1, 1, none⟩ = some (.slice A2 n2 k2) := by rw [hW0]; simp [go_sem]
 have HB := Lib.hid hb
 have HW := Lib.hid hW0
 have H1 := Lib.hid ((h1.below hb).more hb.size)
 have H2 := Lib.hid ((h2.below hb).more hb.size)
 clear hb hW0 h1 h2
 go_enter Tryz.func148, Tryz.ntmps148
 go_upto_region 1 with fail
 rw [← HW.out]
 clear HW
 go_upto_if 11 with fail
 go_cut [6] from 7 (fun s6 wx => ∃ n, Rs W0 wx s6 n ∧ n ≤ 1 ∧ (n = 0 ↔ (o1 == o2) = true))
 case first => (
 go_wp2_with (first
  | (go_at_call 57; refine (c57 _ (by decide) _ _ _).mono ?_; rintro e w1 ⟨⟨t, rfl⟩, rfl⟩)
  | (at_builtin; refine wpList_reason_new (Rs.nil W0) (by omega) rfl _ _ rfl rfl rfl ?_ ?_; (first | rfl | omega); intro v1 w1 hr1))
 all_goals go_meet
 · exact ⟨1, hr1, by omega, by simp_all⟩
 · exact ⟨0, Rs.nil _, by omega, by simp_all⟩)
 case rest => (
 obtain ⟨n, hr, hn, hq⟩ := hcut
 have HR := Lib.hid hr
 have hbw := hr.bel
 have hbs := hr.size
 clear hr
 have C45 := Lib.hid (c45 A1 A2 n1 n2 k1 k2 xs ys wc ((H1.out.below hbw).more hbs) ((H2.out.below hbw).more hbs))
 have x1 := cellk x1 hbw
 have y1 := cellk y1 hbw
 have HQ := Lib.hid hq
 have HN := Lib.hid hn
 clear hq hbw hbs hn
 generalize hL : listEq (fun a b : Int => a == b) xs ys = L at C45
 have HL := Lib.hid hL
 clear hL
 cases L
 all_goals
  go_wp2_with (first
   | (go_at_call 45; refine C45.out.mono ?_; rintro e w1 ⟨rfl, hb1⟩; have x1 := cellk x1 hb1; have y1 := cellk y1 hb1; have HR := Lib.hid (HR.out.below hb1))
   | (go_at_call 57; refine (c57 _ (by decide) _ _ _).mono ?_; rintro e w2 ⟨⟨t, rfl⟩, rfl⟩)
   | (at_builtin; refine wpList_reason_new HR.out (by have := HN.out; omega) rfl _ _ rfl rfl rfl ?_ ?_; (first | rfl | omega); intro v1 w1 hr1))
  go_ret
 · exact ⟨_, _, rfl, hr1.outer HB.out, by have := HN.out; omega, by rw [HL.out]; simp⟩
 · exact ⟨_, _, rfl, HR.out.outer HB.out, by have := HN.out; omega, by rw [HL.out, HQ.out]; simp⟩)
end
end Go.Proofs.YtlpddogcnpokfaaGreatDoor
