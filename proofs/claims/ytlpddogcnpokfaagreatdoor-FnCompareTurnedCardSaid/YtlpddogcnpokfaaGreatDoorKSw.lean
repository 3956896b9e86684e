/- Contracts of functions of the program, for the comparison of aggregations (part KSw). -/
import Derived.Test.YtlpddogcnpokfaaGreatDoorKAg
set_option linter.all false
namespace Go.Proofs.YtlpddogcnpokfaaGreatDoor
open Go.RowKit
theorem infoA123 : (Tryz.prog.info? 123).map (·.size) = some 1 := by kernel_rfl
theorem infoZ123 : (Tryz.prog.info? 123).map (·.zero) = some (some (.agg #[.slice none 0 0])) := by kernel_rfl
theorem asY123 (v : Value) (c : Bool) (w : World) : (Instr.typeAssert (.iface 123 v) 66 123 c).run Tryz.prog w = .ok (if c then .tuple #[v, .bool true] else v) w := by
 simp [Instr.typeAssert, run_underlying Tryz.underlying123]
theorem asN123 (t : TypeId) (v : Value) (w : World) (h : t ≠ 123) : (Instr.typeAssert (.iface t v) 66 123 true).run Tryz.prog w = .ok (.tuple #[.agg #[.slice none 0 0], .bool false]) w := by
 obtain ⟨i, hi, hz⟩ : ∃ i, Tryz.prog.info? 123 = some i ∧ i.zero = some (.agg #[.slice none 0 0]) := by
  have := infoZ123
  cases hi : Tryz.prog.info? 123 with
  | none => rw [hi] at this; simp at this
  | some i => rw [hi] at this; exact ⟨i, rfl, by simpa using this⟩
 simp [Instr.typeAssert, run_underlying Tryz.underlying123, h, zeroValue, typeInfo, hi, hz]
theorem infoA127 : (Tryz.prog.info? 127).map (·.size) = some 1 := by kernel_rfl
theorem infoZ127 : (Tryz.prog.info? 127).map (·.zero) = some (some (.agg #[.slice none 0 0])) := by kernel_rfl
theorem asY127 (v : Value) (c : Bool) (w : World) : (Instr.typeAssert (.iface 127 v) 66 127 c).run Tryz.prog w = .ok (if c then .tuple #[v, .bool true] else v) w := by
 simp [Instr.typeAssert, run_underlying Tryz.underlying127]
theorem asN127 (t : TypeId) (v : Value) (w : World) (h : t ≠ 127) : (Instr.typeAssert (.iface t v) 66 127 true).run Tryz.prog w = .ok (.tuple #[.agg #[.slice none 0 0], .bool false]) w := by
 obtain ⟨i, hi, hz⟩ : ∃ i, Tryz.prog.info? 127 = some i ∧ i.zero = some (.agg #[.slice none 0 0]) := by
  have := infoZ127
  cases hi : Tryz.prog.info? 127 with
  | none => rw [hi] at this; simp at this
  | some i => rw [hi] at this; exact ⟨i, rfl, by simpa using this⟩
 simp [Instr.typeAssert, run_underlying Tryz.underlying127, h, zeroValue, typeInfo, hi, hz]
theorem infoA131 : (Tryz.prog.info? 131).map (·.size) = some 3 := by kernel_rfl
theorem infoZ131 : (Tryz.prog.info? 131).map (·.zero) = some (some (.agg #[.slice none 0 0, .int .u8 0, .bool false])) := by kernel_rfl
theorem asY131 (v : Value) (c : Bool) (w : World) : (Instr.typeAssert (.iface 131 v) 66 131 c).run Tryz.prog w = .ok (if c then .tuple #[v, .bool true] else v) w := by
 simp [Instr.typeAssert, run_underlying Tryz.underlying131]
theorem asN131 (t : TypeId) (v : Value) (w : World) (h : t ≠ 131) : (Instr.typeAssert (.iface t v) 66 131 true).run Tryz.prog w = .ok (.tuple #[.agg #[.slice none 0 0, .int .u8 0, .bool false], .bool false]) w := by
 obtain ⟨i, hi, hz⟩ : ∃ i, Tryz.prog.info? 131 = some i ∧ i.zero = some (.agg #[.slice none 0 0, .int .u8 0, .bool false]) := by
  have := infoZ131
  cases hi : Tryz.prog.info? 131 with
  | none => rw [hi] at this; simp at this
  | some i => rw [hi] at this; exact ⟨i, rfl, by simpa using this⟩
 simp [Instr.typeAssert, run_underlying Tryz.underlying131, h, zeroValue, typeInfo, hi, hz]
theorem infoA134 : (Tryz.prog.info? 134).map (·.size) = some 3 := by kernel_rfl
theorem infoZ134 : (Tryz.prog.info? 134).map (·.zero) = some (some (.agg #[.slice none 0 0, .int .u8 0, .bool false])) := by kernel_rfl
theorem asY134 (v : Value) (c : Bool) (w : World) : (Instr.typeAssert (.iface 134 v) 66 134 c).run Tryz.prog w = .ok (if c then .tuple #[v, .bool true] else v) w := by
 simp [Instr.typeAssert, run_underlying Tryz.underlying134]
theorem asN134 (t : TypeId) (v : Value) (w : World) (h : t ≠ 134) : (Instr.typeAssert (.iface t v) 66 134 true).run Tryz.prog w = .ok (.tuple #[.agg #[.slice none 0 0, .int .u8 0, .bool false], .bool false]) w := by
 obtain ⟨i, hi, hz⟩ : ∃ i, Tryz.prog.info? 134 = some i ∧ i.zero = some (.agg #[.slice none 0 0, .int .u8 0, .bool false]) := by
  have := infoZ134
  cases hi : Tryz.prog.info? 134 with
  | none => rw [hi] at this; simp at this
  | some i => rw [hi] at this; exact ⟨i, rfl, by simpa using this⟩
 simp [Instr.typeAssert, run_underlying Tryz.underlying134, h, zeroValue, typeInfo, hi, hz]
theorem infoA138 : (Tryz.prog.info? 138).map (·.size) = some 2 := by kernel_rfl
theorem infoZ138 : (Tryz.prog.info? 138).map (·.zero) = some (some (.agg #[.slice none 0 0, .int .u8 0])) := by kernel_rfl
theorem asY138 (v : Value) (c : Bool) (w : World) : (Instr.typeAssert (.iface 138 v) 66 138 c).run Tryz.prog w = .ok (if c then .tuple #[v, .bool true] else v) w := by
 simp [Instr.typeAssert, run_underlying Tryz.underlying138]
theorem asN138 (t : TypeId) (v : Value) (w : World) (h : t ≠ 138) : (Instr.typeAssert (.iface t v) 66 138 true).run Tryz.prog w = .ok (.tuple #[.agg #[.slice none 0 0, .int .u8 0], .bool false]) w := by
 obtain ⟨i, hi, hz⟩ : ∃ i, Tryz.prog.info? 138 = some i ∧ i.zero = some (.agg #[.slice none 0 0, .int .u8 0]) := by
  have := infoZ138
  cases hi : Tryz.prog.info? 138 with
  | none => rw [hi] at this; simp at this
  | some i => rw [hi] at this; exact ⟨i, rfl, by simpa using this⟩
 simp [Instr.typeAssert, run_underlying Tryz.underlying138, h, zeroValue, typeInfo, hi, hz]
theorem infoA142 : (Tryz.prog.info? 142).map (·.size) = some 2 := by kernel_rfl
theorem infoZ142 : (Tryz.prog.info? 142).map (·.zero) = some (some (.agg #[.slice none 0 0, .int .u8 0])) := by kernel_rfl
theorem asY142 (v : Value) (c : Bool) (w : World) : (Instr.typeAssert (.iface 142 v) 66 142 c).run Tryz.prog w = .ok (if c then .tuple #[v, .bool true] else v) w := by
 simp [Instr.typeAssert, run_underlying Tryz.underlying142]
theorem asN142 (t : TypeId) (v : Value) (w : World) (h : t ≠ 142) : (Instr.typeAssert (.iface t v) 66 142 true).run Tryz.prog w = .ok (.tuple #[.agg #[.slice none 0 0, .int .u8 0], .bool false]) w := by
 obtain ⟨i, hi, hz⟩ : ∃ i, Tryz.prog.info? 142 = some i ∧ i.zero = some (.agg #[.slice none 0 0, .int .u8 0]) := by
  have := infoZ142
  cases hi : Tryz.prog.info? 142 with
  | none => rw [hi] at this; simp at this
  | some i => rw [hi] at this; exact ⟨i, rfl, by simpa using this⟩
 simp [Instr.typeAssert, run_underlying Tryz.underlying142, h, zeroValue, typeInfo, hi, hz]
theorem infoA146 : (Tryz.prog.info? 146).map (·.size) = some 2 := by kernel_rfl
theorem infoZ146 : (Tryz.prog.info? 146).map (·.zero) = some (some (.agg #[.slice none 0 0, .int .u8 0])) := by kernel_rfl
theorem asY146 (v : Value) (c : Bool) (w : World) : (Instr.typeAssert (.iface 146 v) 66 146 c).run Tryz.prog w = .ok (if c then .tuple #[v, .bool true] else v) w := by
 simp [Instr.typeAssert, run_underlying Tryz.underlying146]
theorem asN146 (t : TypeId) (v : Value) (w : World) (h : t ≠ 146) : (Instr.typeAssert (.iface t v) 66 146 true).run Tryz.prog w = .ok (.tuple #[.agg #[.slice none 0 0, .int .u8 0], .bool false]) w := by
 obtain ⟨i, hi, hz⟩ : ∃ i, Tryz.prog.info? 146 = some i ∧ i.zero = some (.agg #[.slice none 0 0, .int .u8 0]) := by
  have := infoZ146
  cases hi : Tryz.prog.info? 146 with
  | none => rw [hi] at this; simp at this
  | some i => rw [hi] at this; exact ⟨i, rfl, by simpa using this⟩
 simp [Instr.typeAssert, run_underlying Tryz.underlying146, h, zeroValue, typeInfo, hi, hz]
theorem infoA150 : (Tryz.prog.info? 150).map (·.size) = some 2 := by kernel_rfl
theorem infoZ150 : (Tryz.prog.info? 150).map (·.zero) = some (some (.agg #[.slice none 0 0, .int .u8 0])) := by kernel_rfl
theorem asY150 (v : Value) (c : Bool) (w : World) : (Instr.typeAssert (.iface 150 v) 66 150 c).run Tryz.prog w = .ok (if c then .tuple #[v, .bool true] else v) w := by
 simp [Instr.typeAssert, run_underlying Tryz.underlying150]
theorem asN150 (t : TypeId) (v : Value) (w : World) (h : t ≠ 150) : (Instr.typeAssert (.iface t v) 66 150 true).run Tryz.prog w = .ok (.tuple #[.agg #[.slice none 0 0, .int .u8 0], .bool false]) w := by
 obtain ⟨i, hi, hz⟩ : ∃ i, Tryz.prog.info? 150 = some i ∧ i.zero = some (.agg #[.slice none 0 0, .int .u8 0]) := by
  have := infoZ150
  cases hi : Tryz.prog.info? 150 with
  | none => rw [hi] at this; simp at this
  | some i => rw [hi] at this; exact ⟨i, rfl, by simpa using this⟩
 simp [Instr.typeAssert, run_underlying Tryz.underlying150, h, zeroValue, typeInfo, hi, hz]
theorem c58_eq123 (va : Value) (cb : Array Value) (w : World) (hs : cb.size = 1) (ho : cb.toList.all (·.oneCell') = true) : Calls Tryz.prog 58 #[.iface 123 va, .iface 123 (.agg cb)] w fun e w' => e = .returned (.bool true) ∧ Below w.heap.size w w' := by
 have y123 := fun (v : Value) (w : World) => asY123 v true w
 go_enter Tryz.func58, Tryz.ntmps58
 go_wp2_with ((with_reducible apply arm_store_new 1 infoA123); rfl; simp; rfl; rfl; assumption; assumption)
 go_ret
 exact ⟨rfl, (Below.refl _ _).alloc (Nat.le_refl _) _⟩
theorem c58_ne123 (tb : TypeId) (va vb : Value) (w : World) (hne : tb ≠ 123) : Calls Tryz.prog 58 #[.iface 123 va, .iface tb vb] w fun e w' => e = .returned (.bool false) ∧ Below w.heap.size w w' := by
 have y123 := fun (v : Value) (w : World) => asY123 v true w
 have nb := fun (v : Value) (w : World) => asN123 tb v w hne
 clear hne
 go_enter Tryz.func58, Tryz.ntmps58
 go_wp2_with ((with_reducible apply arm_store_new 1 infoA123); rfl; simp; rfl; rfl; rfl; rfl)
 go_ret
 exact ⟨rfl, (Below.refl _ _).alloc (Nat.le_refl _) _⟩
theorem c58_eq127 (va : Value) (cb : Array Value) (w : World) (hs : cb.size = 1) (ho : cb.toList.all (·.oneCell') = true) : Calls Tryz.prog 58 #[.iface 127 va, .iface 127 (.agg cb)] w fun e w' => e = .returned (.bool true) ∧ Below w.heap.size w w' := by
 have n123 := fun (v : Value) (w : World) => asN123 127 v w (by decide)
 have y127 := fun (v : Value) (w : World) => asY127 v true w
 go_enter Tryz.func58, Tryz.ntmps58
 go_wp2_with ((with_reducible apply arm_store_new 1 infoA127); rfl; simp; rfl; rfl; assumption; assumption)
 go_ret
 exact ⟨rfl, (Below.refl _ _).alloc (Nat.le_refl _) _⟩
theorem c58_ne127 (tb : TypeId) (va vb : Value) (w : World) (hne : tb ≠ 127) : Calls Tryz.prog 58 #[.iface 127 va, .iface tb vb] w fun e w' => e = .returned (.bool false) ∧ Below w.heap.size w w' := by
 have n123 := fun (v : Value) (w : World) => asN123 127 v w (by decide)
 have y127 := fun (v : Value) (w : World) => asY127 v true w
 have nb := fun (v : Value) (w : World) => asN127 tb v w hne
 clear hne
 go_enter Tryz.func58, Tryz.ntmps58
 go_wp2_with ((with_reducible apply arm_store_new 1 infoA127); rfl; simp; rfl; rfl; rfl; rfl)
 go_ret
 exact ⟨rfl, (Below.refl _ _).alloc (Nat.le_refl _) _⟩
theorem c58_eq131 (va : Value) (cb : Array Value) (w : World) (hs : cb.size = 3) (ho : cb.toList.all (·.oneCell') = true) : Calls Tryz.prog 58 #[.iface 131 va, .iface 131 (.agg cb)] w fun e w' => e = .returned (.bool true) ∧ Below w.heap.size w w' := by
 have n123 := fun (v : Value) (w : World) => asN123 131 v w (by decide)
 have n127 := fun (v : Value) (w : World) => asN127 131 v w (by decide)
 have y131 := fun (v : Value) (w : World) => asY131 v true w
 go_enter Tryz.func58, Tryz.ntmps58
 go_wp2_with ((with_reducible apply arm_store_new 3 infoA131); rfl; simp; rfl; rfl; assumption; assumption)
 go_ret
 exact ⟨rfl, (Below.refl _ _).alloc (Nat.le_refl _) _⟩
theorem c58_ne131 (tb : TypeId) (va vb : Value) (w : World) (hne : tb ≠ 131) : Calls Tryz.prog 58 #[.iface 131 va, .iface tb vb] w fun e w' => e = .returned (.bool false) ∧ Below w.heap.size w w' := by
 have n123 := fun (v : Value) (w : World) => asN123 131 v w (by decide)
 have n127 := fun (v : Value) (w : World) => asN127 131 v w (by decide)
 have y131 := fun (v : Value) (w : World) => asY131 v true w
 have nb := fun (v : Value) (w : World) => asN131 tb v w hne
 clear hne
 go_enter Tryz.func58, Tryz.ntmps58
 go_wp2_with ((with_reducible apply arm_store_new 3 infoA131); rfl; simp; rfl; rfl; rfl; rfl)
 go_ret
 exact ⟨rfl, (Below.refl _ _).alloc (Nat.le_refl _) _⟩
theorem c58_eq134 (va : Value) (cb : Array Value) (w : World) (hs : cb.size = 3) (ho : cb.toList.all (·.oneCell') = true) : Calls Tryz.prog 58 #[.iface 134 va, .iface 134 (.agg cb)] w fun e w' => e = .returned (.bool true) ∧ Below w.heap.size w w' := by
 have n123 := fun (v : Value) (w : World) => asN123 134 v w (by decide)
 have n127 := fun (v : Value) (w : World) => asN127 134 v w (by decide)
 have n131 := fun (v : Value) (w : World) => asN131 134 v w (by decide)
 have y134 := fun (v : Value) (w : World) => asY134 v true w
 go_enter Tryz.func58, Tryz.ntmps58
 go_wp2_with ((with_reducible apply arm_store_new 3 infoA134); rfl; simp; rfl; rfl; assumption; assumption)
 go_ret
 exact ⟨rfl, (Below.refl _ _).alloc (Nat.le_refl _) _⟩
theorem c58_ne134 (tb : TypeId) (va vb : Value) (w : World) (hne : tb ≠ 134) : Calls Tryz.prog 58 #[.iface 134 va, .iface tb vb] w fun e w' => e = .returned (.bool false) ∧ Below w.heap.size w w' := by
 have n123 := fun (v : Value) (w : World) => asN123 134 v w (by decide)
 have n127 := fun (v : Value) (w : World) => asN127 134 v w (by decide)
 have n131 := fun (v : Value) (w : World) => asN131 134 v w (by decide)
 have y134 := fun (v : Value) (w : World) => asY134 v true w
 have nb := fun (v : Value) (w : World) => asN134 tb v w hne
 clear hne
 go_enter Tryz.func58, Tryz.ntmps58
 go_wp2_with ((with_reducible apply arm_store_new 3 infoA134); rfl; simp; rfl; rfl; rfl; rfl)
 go_ret
 exact ⟨rfl, (Below.refl _ _).alloc (Nat.le_refl _) _⟩
theorem c58_eq138 (va : Value) (cb : Array Value) (w : World) (hs : cb.size = 2) (ho : cb.toList.all (·.oneCell') = true) : Calls Tryz.prog 58 #[.iface 138 va, .iface 138 (.agg cb)] w fun e w' => e = .returned (.bool true) ∧ Below w.heap.size w w' := by
 have n123 := fun (v : Value) (w : World) => asN123 138 v w (by decide)
 have n127 := fun (v : Value) (w : World) => asN127 138 v w (by decide)
 have n131 := fun (v : Value) (w : World) => asN131 138 v w (by decide)
 have n134 := fun (v : Value) (w : World) => asN134 138 v w (by decide)
 have y138 := fun (v : Value) (w : World) => asY138 v true w
 go_enter Tryz.func58, Tryz.ntmps58
 go_wp2_with ((with_reducible apply arm_store_new 2 infoA138); rfl; simp; rfl; rfl; assumption; assumption)
 go_ret
 exact ⟨rfl, (Below.refl _ _).alloc (Nat.le_refl _) _⟩
theorem c58_ne138 (tb : TypeId) (va vb : Value) (w : World) (hne : tb ≠ 138) : Calls Tryz.prog 58 #[.iface 138 va, .iface tb vb] w fun e w' => e = .returned (.bool false) ∧ Below w.heap.size w w' := by
 have n123 := fun (v : Value) (w : World) => asN123 138 v w (by decide)
 have n127 := fun (v : Value) (w : World) => asN127 138 v w (by decide)
 have n131 := fun (v : Value) (w : World) => asN131 138 v w (by decide)
 have n134 := fun (v : Value) (w : World) => asN134 138 v w (by decide)
 have y138 := fun (v : Value) (w : World) => asY138 v true w
 have nb := fun (v : Value) (w : World) => asN138 tb v w hne
 clear hne
 go_enter Tryz.func58, Tryz.ntmps58
 go_wp2_with ((with_reducible apply arm_store_new 2 infoA138); rfl; simp; rfl; rfl; rfl; rfl)
 go_ret
 exact ⟨rfl, (Below.refl _ _).alloc (Nat.le_refl _) _⟩
theorem c58_eq142 (va : Value) (cb : Array Value) (w : World) (hs : cb.size = 2) (ho : cb.toList.all (·.oneCell') = true) : Calls Tryz.prog 58 #[.iface 142 va, .iface 142 (.agg cb)] w fun e w' => e = .returned (.bool true) ∧ Below w.heap.size w w' := by
 have n123 := fun (v : Value) (w : World) => asN123 142 v w (by decide)
 have n127 := fun (v : Value) (w : World) => asN127 142 v w (by decide)
 have n131 := fun (v : Value) (w : World) => asN131 142 v w (by decide)
 have n134 := fun (v : Value) (w : World) => asN134 142 v w (by decide)
 have n138 := fun (v : Value) (w : World) => asN138 142 v w (by decide)
 have y142 := fun (v : Value) (w : World) => asY142 v true w
 go_enter Tryz.func58, Tryz.ntmps58
 go_wp2_with ((with_reducible apply arm_store_new 2 infoA142); rfl; simp; rfl; rfl; assumption; assumption)
 go_ret
 exact ⟨rfl, (Below.refl _ _).alloc (Nat.le_refl _) _⟩
theorem c58_ne142 (tb : TypeId) (va vb : Value) (w : World) (hne : tb ≠ 142) : Calls Tryz.prog 58 #[.iface 142 va, .iface tb vb] w fun e w' => e = .returned (.bool false) ∧ Below w.heap.size w w' := by
 have n123 := fun (v : Value) (w : World) => asN123 142 v w (by decide)
 have n127 := fun (v : Value) (w : World) => asN127 142 v w (by decide)
 have n131 := fun (v : Value) (w : World) => asN131 142 v w (by decide)
 have n134 := fun (v : Value) (w : World) => asN134 142 v w (by decide)
 have n138 := fun (v : Value) (w : World) => asN138 142 v w (by decide)
 have y142 := fun (v : Value) (w : World) => asY142 v true w
 have nb := fun (v : Value) (w : World) => asN142 tb v w hne
 clear hne
 go_enter Tryz.func58, Tryz.ntmps58
 go_wp2_with ((with_reducible apply arm_store_new 2 infoA142); rfl; simp; rfl; rfl; rfl; rfl)
 go_ret
 exact ⟨rfl, (Below.refl _ _).alloc (Nat.le_refl _) _⟩
theorem c58_eq146 (va : Value) (cb : Array Value) (w : World) (hs : cb.size = 2) (ho : cb.toList.all (·.oneCell') = true) : Calls Tryz.prog 58 #[.iface 146 va, .iface 146 (.agg cb)] w fun e w' => e = .returned (.bool true) ∧ Below w.heap.size w w' := by
 have n123 := fun (v : Value) (w : World) => asN123 146 v w (by decide)
 have n127 := fun (v : Value) (w : World) => asN127 146 v w (by decide)
 have n131 := fun (v : Value) (w : World) => asN131 146 v w (by decide)
 have n134 := fun (v : Value) (w : World) => asN134 146 v w (by decide)
 have n138 := fun (v : Value) (w : World) => asN138 146 v w (by decide)
 have n142 := fun (v : Value) (w : World) => asN142 146 v w (by decide)
 have y146 := fun (v : Value) (w : World) => asY146 v true w
 go_enter Tryz.func58, Tryz.ntmps58
 go_wp2_with ((with_reducible apply arm_store_new 2 infoA146); rfl; simp; rfl; rfl; assumption; assumption)
 go_ret
 exact ⟨rfl, (Below.refl _ _).alloc (Nat.le_refl _) _⟩
theorem c58_ne146 (tb : TypeId) (va vb : Value) (w : World) (hne : tb ≠ 146) : Calls Tryz.prog 58 #[.iface 146 va, .iface tb vb] w fun e w' => e = .returned (.bool false) ∧ Below w.heap.size w w' := by
 have n123 := fun (v : Value) (w : World) => asN123 146 v w (by decide)
 have n127 := fun (v : Value) (w : World) => asN127 146 v w (by decide)
 have n131 := fun (v : Value) (w : World) => asN131 146 v w (by decide)
 have n134 := fun (v : Value) (w : World) => asN134 146 v w (by decide)
 have n138 := fun (v : Value) (w : World) => asN138 146 v w (by decide)
 have n142 := fun (v : Value) (w : World) => asN142 146 v w (by decide)
 have y146 := fun (v : Value) (w : World) => asY146 v true w
 have nb := fun (v : Value) (w : World) => asN146 tb v w hne
 clear hne
 go_enter Tryz.func58, Tryz.ntmps58
 go_wp2_with ((with_reducible apply arm_store_new 2 infoA146); rfl; simp; rfl; rfl; rfl; rfl)
 go_ret
 exact ⟨rfl, (Below.refl _ _).alloc (Nat.le_refl _) _⟩
theorem c58_eq150 (va : Value) (cb : Array Value) (w : World) (hs : cb.size = 2) (ho : cb.toList.all (·.oneCell') = true) : Calls Tryz.prog 58 #[.iface 150 va, .iface 150 (.agg cb)] w fun e w' => e = .returned (.bool true) ∧ Below w.heap.size w w' := by
 have n123 := fun (v : Value) (w : World) => asN123 150 v w (by decide)
 have n127 := fun (v : Value) (w : World) => asN127 150 v w (by decide)
 have n131 := fun (v : Value) (w : World) => asN131 150 v w (by decide)
 have n134 := fun (v : Value) (w : World) => asN134 150 v w (by decide)
 have n138 := fun (v : Value) (w : World) => asN138 150 v w (by decide)
 have n142 := fun (v : Value) (w : World) => asN142 150 v w (by decide)
 have n146 := fun (v : Value) (w : World) => asN146 150 v w (by decide)
 have y150 := fun (v : Value) (w : World) => asY150 v true w
 go_enter Tryz.func58, Tryz.ntmps58
 go_wp2_with ((with_reducible apply arm_store_new 2 infoA150); rfl; simp; rfl; rfl; assumption; assumption)
 go_ret
 exact ⟨rfl, (Below.refl _ _).alloc (Nat.le_refl _) _⟩
theorem c58_ne150 (tb : TypeId) (va vb : Value) (w : World) (hne : tb ≠ 150) : Calls Tryz.prog 58 #[.iface 150 va, .iface tb vb] w fun e w' => e = .returned (.bool false) ∧ Below w.heap.size w w' := by
 have n123 := fun (v : Value) (w : World) => asN123 150 v w (by decide)
 have n127 := fun (v : Value) (w : World) => asN127 150 v w (by decide)
 have n131 := fun (v : Value) (w : World) => asN131 150 v w (by decide)
 have n134 := fun (v : Value) (w : World) => asN134 150 v w (by decide)
 have n138 := fun (v : Value) (w : World) => asN138 150 v w (by decide)
 have n142 := fun (v : Value) (w : World) => asN142 150 v w (by decide)
 have n146 := fun (v : Value) (w : World) => asN146 150 v w (by decide)
 have y150 := fun (v : Value) (w : World) => asY150 v true w
 have nb := fun (v : Value) (w : World) => asN150 tb v w hne
 clear hne
 go_enter Tryz.func58, Tryz.ntmps58
 go_wp2_with ((with_reducible apply arm_store_new 2 infoA150); rfl; simp; rfl; rfl; rfl; rfl)
 go_ret
 exact ⟨rfl, (Below.refl _ _).alloc (Nat.le_refl _) _⟩
set_option maxRecDepth 100000 in
set_option maxHeartbeats 2000000 in
theorem c39_123 (A1 A2 : Option Addr) (n1 n2 k1 k2 : Nat) (it iv : Bool) (xs ys : List (Dot × Sl5)) (w : World) (h1 : Rd w w.heap.size 6 A1 n1 k1 (xs.map dpI)) (h2 : Rd w w.heap.size 6 A2 n2 k2 (ys.map dpI)) (hp1 : ∀ q ∈ xs, PtR w w.heap.size q.1 q.2) (hp2 : ∀ q ∈ ys, PtR w w.heap.size q.1 q.2) (hn1 : n1 ≤ 1000) (hn2 : n2 ≤ 1000) (hT : Lib.Utf8Tabs 3 4 w) (hT4 : 4 < w.heap.size) :
 Calls Tryz.prog 39 #[.iface 123 (.agg #[.slice A1 n1 k1]), .iface 123 (.agg #[.slice A2 n2 k2]), .agg #[.bool it, .bool iv]] w fun e w' => ∃ A n c, e = .returned (.slice A n c) ∧ Below w.heap.size w w' ∧ (n = 0 ↔ diffSame (dpIEq it iv) xs ys = true) := by
 have CF : Hid (∀ W, Below w.heap.size w W → Calls Tryz.prog 59 #[.agg #[.slice A1 n1 k1], .agg #[.slice A2 n2 k2], .agg #[.bool it, .bool iv]] W fun e w' => ∃ A n c, e = .returned (.slice A n c) ∧ Rs W w' (.slice A n c) n ∧ n ≤ 10 ∧ (n = 0 ↔ diffSame (dpIEq it iv) xs ys = true)) := Lib.hid fun W hW =>
  c59 A1 A2 n1 n2 k1 k2 it iv xs ys W ((h1.below hW).more hW.size) ((h2.below hW).more hW.size) (fun q hq => ((hp1 q hq).below hW).more hW.size) (fun q hq => ((hp2 q hq).below hW).more hW.size) hn1 hn2 (utf8_below hT hT4 hW) (Nat.lt_of_lt_of_le hT4 hW.size)
 generalize diffSame (dpIEq it iv) xs ys = D at CF ⊢
 obtain ⟨W0, hW0⟩ : ∃ W0, W0 = w.alloc (.cells #[.bool it, .bool iv] 101) := ⟨_, rfl⟩
 have hb : Below w.heap.size w W0 := ba hW0
 have g0 : W0.cell? ⟨w.heap.size, 0, none⟩ = some (.bool it) := by rw [hW0]; simp [go_sem]
 have g1 : W0.cell? ⟨w.heap.size, 1, none⟩ = some (.bool iv) := by rw [hW0]; simp [go_sem]
 have HB := Lib.hid hb
 have HW := Lib.hid hW0
 clear hW0 hb h1 h2 hp1 hp2 hT
 have y123 := fun (v : Value) (w : World) => asY123 v true w
 have z123 := fun (v : Value) (w : World) => asY123 v false w
 go_enter Tryz.func39, Tryz.ntmps39
 go_upto_region 1 with fail
 rw [← HW.out]
 clear HW
 go_upto_region 12 with (first
  | (go_at_call 58; refine (c58_eq123 _ #[.slice A2 n2 k2] _ rfl rfl).mono ?_; rintro e w1 ⟨rfl, hb1⟩; have g0 := cellk g0 hb1; have g1 := cellk g1 hb1)
  | ((with_reducible apply arm_store_new 1 infoA123); rfl; simp; rfl; rfl; rfl; rfl))
 obtain ⟨B7, hB7⟩ : ∃ B, B = w1.heap.size := ⟨_, rfl⟩
 obtain ⟨w2, hw2⟩ : ∃ w2, w2 = w1.alloc (.cells #[.slice A1 n1 k1] 123) := ⟨_, rfl⟩
 rw [← hw2, ← hB7]
 have hb2 : Below w1.heap.size w1 w2 := ba hw2
 have x0 : w2.cell? ⟨B7, 0, none⟩ = some (.slice A1 n1 k1) := by rw [hw2, hB7]; simp [go_sem]
 replace g0 := cellk g0 hb2
 replace g1 := cellk g1 hb2
 have HBW := Lib.hid (below_then (below_then HB.out HB.out.size hb1) (Nat.le_trans HB.out.size hb1.size) hb2)
 clear hw2 hB7 hb1 hb2
 try simp only [Act.put]
 go_cut [8] from 50 to 54 (fun s8 wx => ∃ A n c W, s8 = .slice A n c ∧ Below w.heap.size w wx ∧ Rs W wx (.slice A n c) n ∧ n ≤ 10 ∧ (n = 0 ↔ D = true))
 case first => (
 as_aux_lemma => (
 first
  | (go_region_held3 (fun w' => w'.cell? ⟨B7, 0, none⟩ = some (.slice A1 n1 k1) ∧ w'.cell? ⟨w.heap.size, 0, none⟩ = some (.bool it) ∧ w'.cell? ⟨w.heap.size, 1, none⟩ = some (.bool iv)) (first | exact ⟨x0, g0, g1⟩ | exact ⟨cellk (w := w2.drew) x0 hb5, cellk (w := w2.drew) g0 hb5, cellk (w := w2.drew) g1 hb5⟩)
   (first | (go_at_call 59; (with_reducible refine (CF.out _ (below_drew HBW.out)).mono ?_); rintro e w5 ⟨rA, rn, rc, rfl, hrs, hr10, hiff⟩; have hb5 := hrs.bel)))
  | fail
 all_goals go_wp2_with fail
 all_goals go_meet
 all_goals exact ⟨rA, rn, rc, _, rfl, below_then (below_drew HBW.out) (below_drew HBW.out).size hb5, hrs, hr10, hiff⟩))
 case rest => (
 obtain ⟨rA, rn, rc, WR, rfl, hbx, hrs, hr10, hiff⟩ := hcut
 obtain ⟨wk, rfl⟩ : ∃ wk : World, wk = wc := ⟨_, rfl⟩
 have HBX := Lib.hid hbx
 have HRS := Lib.hid hrs
 have HIF := Lib.hid hiff
 have HR := Lib.hid (Rs.nil wk)
 clear hbx hrs hiff CF
 by_cases hr0 : rn = 0
 · (
 have q1 : ¬ (0 : Int) < (rn : Int) := by omega
 have HR0 := Lib.hid hr0
 clear hr0
 as_aux_lemma => (
 go_wp2_with fail
 go_ret
 have hz : (0 : Nat) = 0 ↔ D = true := by rw [← HIF.out]; simp [HR0.out]
 first
  | exact ⟨none, 0, 0, rfl, HBX.out, hz⟩
  | exact ⟨none, 0, ⟨0, rfl⟩, HBX.out, hz⟩))
 · (
 have q1 : (0 : Int) < (rn : Int) := by omega
 have HR0 := Lib.hid hr0
 clear hr0
 as_aux_lemma => (
 go_wp2_with (first
  | (at_builtin; refine wpList_reason_new HR.out (by decide) rfl _ _ rfl rfl rfl ?_ ?_; (first | rfl | simp); intro v1 w3 hr1; have HR1 := Lib.hid hr1; have HRR := Lib.hid (HRS.out.below hr1.bel); clear hr1)
  | (at_builtin; refine wpList_reasons rfl _ _ rfl rfl rfl HR1.out HRR.out (by have := HR0.out; omega) (by omega) ?_; intro v2 w4 hr2))
 go_ret
 obtain ⟨fA, fc, rfl⟩ := hr2.slice
 have hz : 0 + 1 + rn = 0 ↔ D = true := by rw [← HIF.out]; have := HR0.out; omega
 first
  | exact ⟨fA, _, fc, rfl, below_then HBX.out HBX.out.size hr2.bel, hz⟩
  | exact ⟨fA, _, ⟨fc, rfl⟩, below_then HBX.out HBX.out.size hr2.bel, hz⟩)))
set_option maxRecDepth 100000 in
theorem c39_ne123 (tb : TypeId) (va vb : Value) (it iv : Bool) (w : World) (hne : tb ≠ 123) : Calls Tryz.prog 39 #[.iface 123 va, .iface tb vb, .agg #[.bool it, .bool iv]] w fun e w' => ∃ A n c, e = .returned (.slice A n c) ∧ Below w.heap.size w w' ∧ n ≠ 0 := by
 have HN := Lib.hid hne
 clear hne
 go_enter Tryz.func39, Tryz.ntmps39
 go_wp2_with (go_at_call 58; refine (c58_ne123 tb _ _ _ HN.out).mono ?_; rintro e w1 ⟨rfl, hb1⟩)
 go_ret
 exact ⟨_, _, _, rfl, (below_then ((Below.refl _ _).alloc (Nat.le_refl _) _) (by simp) hb1).alloc (by have := hb1.size; rw [World.size_alloc] at this; omega) _, by decide⟩
set_option maxRecDepth 100000 in
set_option maxHeartbeats 2000000 in
theorem c39_127 (A1 A2 : Option Addr) (n1 n2 k1 k2 : Nat) (it iv : Bool) (xs ys : List (Dot × Sl5)) (w : World) (h1 : Rd w w.heap.size 6 A1 n1 k1 (xs.map dpF)) (h2 : Rd w w.heap.size 6 A2 n2 k2 (ys.map dpF)) (hp1 : ∀ q ∈ xs, PtR w w.heap.size q.1 q.2) (hp2 : ∀ q ∈ ys, PtR w w.heap.size q.1 q.2) (hn1 : n1 ≤ 1000) (hn2 : n2 ≤ 1000) (hT : Lib.Utf8Tabs 3 4 w) (hT4 : 4 < w.heap.size) :
 Calls Tryz.prog 39 #[.iface 127 (.agg #[.slice A1 n1 k1]), .iface 127 (.agg #[.slice A2 n2 k2]), .agg #[.bool it, .bool iv]] w fun e w' => ∃ A n c, e = .returned (.slice A n c) ∧ Below w.heap.size w w' ∧ (n = 0 ↔ diffSame (dpFEq it iv) xs ys = true) := by
 have CF : Hid (∀ W, Below w.heap.size w W → Calls Tryz.prog 60 #[.agg #[.slice A1 n1 k1], .agg #[.slice A2 n2 k2], .agg #[.bool it, .bool iv]] W fun e w' => ∃ A n c, e = .returned (.slice A n c) ∧ Rs W w' (.slice A n c) n ∧ n ≤ 10 ∧ (n = 0 ↔ diffSame (dpFEq it iv) xs ys = true)) := Lib.hid fun W hW =>
  c60 A1 A2 n1 n2 k1 k2 it iv xs ys W ((h1.below hW).more hW.size) ((h2.below hW).more hW.size) (fun q hq => ((hp1 q hq).below hW).more hW.size) (fun q hq => ((hp2 q hq).below hW).more hW.size) hn1 hn2 (utf8_below hT hT4 hW) (Nat.lt_of_lt_of_le hT4 hW.size)
 generalize diffSame (dpFEq it iv) xs ys = D at CF ⊢
 obtain ⟨W0, hW0⟩ : ∃ W0, W0 = w.alloc (.cells #[.bool it, .bool iv] 101) := ⟨_, rfl⟩
 have hb : Below w.heap.size w W0 := ba hW0
 have g0 : W0.cell? ⟨w.heap.size, 0, none⟩ = some (.bool it) := by rw [hW0]; simp [go_sem]
 have g1 : W0.cell? ⟨w.heap.size, 1, none⟩ = some (.bool iv) := by rw [hW0]; simp [go_sem]
 have HB := Lib.hid hb
 have HW := Lib.hid hW0
 clear hW0 hb h1 h2 hp1 hp2 hT
 have n123 := fun (v : Value) (w : World) => asN123 127 v w (by decide)
 have y127 := fun (v : Value) (w : World) => asY127 v true w
 have z127 := fun (v : Value) (w : World) => asY127 v false w
 go_enter Tryz.func39, Tryz.ntmps39
 go_upto_region 1 with fail
 rw [← HW.out]
 clear HW
 go_upto_region 18 with (first
  | (go_at_call 58; refine (c58_eq127 _ #[.slice A2 n2 k2] _ rfl rfl).mono ?_; rintro e w1 ⟨rfl, hb1⟩; have g0 := cellk g0 hb1; have g1 := cellk g1 hb1)
  | ((with_reducible apply arm_store_new 1 infoA127); rfl; simp; rfl; rfl; rfl; rfl))
 obtain ⟨B7, hB7⟩ : ∃ B, B = w1.heap.size := ⟨_, rfl⟩
 obtain ⟨w2, hw2⟩ : ∃ w2, w2 = w1.alloc (.cells #[.slice A1 n1 k1] 127) := ⟨_, rfl⟩
 rw [← hw2, ← hB7]
 have hb2 : Below w1.heap.size w1 w2 := ba hw2
 have x0 : w2.cell? ⟨B7, 0, none⟩ = some (.slice A1 n1 k1) := by rw [hw2, hB7]; simp [go_sem]
 replace g0 := cellk g0 hb2
 replace g1 := cellk g1 hb2
 have HBW := Lib.hid (below_then (below_then HB.out HB.out.size hb1) (Nat.le_trans HB.out.size hb1.size) hb2)
 clear hw2 hB7 hb1 hb2
 try simp only [Act.put]
 go_cut [10] from 67 to 71 (fun s8 wx => ∃ A n c W, s8 = .slice A n c ∧ Below w.heap.size w wx ∧ Rs W wx (.slice A n c) n ∧ n ≤ 10 ∧ (n = 0 ↔ D = true))
 case first => (
 as_aux_lemma => (
 first
  | (go_region_held3 (fun w' => w'.cell? ⟨B7, 0, none⟩ = some (.slice A1 n1 k1) ∧ w'.cell? ⟨w.heap.size, 0, none⟩ = some (.bool it) ∧ w'.cell? ⟨w.heap.size, 1, none⟩ = some (.bool iv)) (first | exact ⟨x0, g0, g1⟩ | exact ⟨cellk (w := w2.drew) x0 hb5, cellk (w := w2.drew) g0 hb5, cellk (w := w2.drew) g1 hb5⟩)
   (first | (go_at_call 60; (with_reducible refine (CF.out _ (below_drew HBW.out)).mono ?_); rintro e w5 ⟨rA, rn, rc, rfl, hrs, hr10, hiff⟩; have hb5 := hrs.bel)))
  | fail
 all_goals go_wp2_with fail
 all_goals go_meet
 all_goals exact ⟨rA, rn, rc, _, rfl, below_then (below_drew HBW.out) (below_drew HBW.out).size hb5, hrs, hr10, hiff⟩))
 case rest => (
 obtain ⟨rA, rn, rc, WR, rfl, hbx, hrs, hr10, hiff⟩ := hcut
 obtain ⟨wk, rfl⟩ : ∃ wk : World, wk = wc := ⟨_, rfl⟩
 have HBX := Lib.hid hbx
 have HRS := Lib.hid hrs
 have HIF := Lib.hid hiff
 have HR := Lib.hid (Rs.nil wk)
 clear hbx hrs hiff CF
 by_cases hr0 : rn = 0
 · (
 have q1 : ¬ (0 : Int) < (rn : Int) := by omega
 have HR0 := Lib.hid hr0
 clear hr0
 as_aux_lemma => (
 go_wp2_with fail
 go_ret
 have hz : (0 : Nat) = 0 ↔ D = true := by rw [← HIF.out]; simp [HR0.out]
 first
  | exact ⟨none, 0, 0, rfl, HBX.out, hz⟩
  | exact ⟨none, 0, ⟨0, rfl⟩, HBX.out, hz⟩))
 · (
 have q1 : (0 : Int) < (rn : Int) := by omega
 have HR0 := Lib.hid hr0
 clear hr0
 as_aux_lemma => (
 go_wp2_with (first
  | (at_builtin; refine wpList_reason_new HR.out (by decide) rfl _ _ rfl rfl rfl ?_ ?_; (first | rfl | simp); intro v1 w3 hr1; have HR1 := Lib.hid hr1; have HRR := Lib.hid (HRS.out.below hr1.bel); clear hr1)
  | (at_builtin; refine wpList_reasons rfl _ _ rfl rfl rfl HR1.out HRR.out (by have := HR0.out; omega) (by omega) ?_; intro v2 w4 hr2))
 go_ret
 obtain ⟨fA, fc, rfl⟩ := hr2.slice
 have hz : 0 + 1 + rn = 0 ↔ D = true := by rw [← HIF.out]; have := HR0.out; omega
 first
  | exact ⟨fA, _, fc, rfl, below_then HBX.out HBX.out.size hr2.bel, hz⟩
  | exact ⟨fA, _, ⟨fc, rfl⟩, below_then HBX.out HBX.out.size hr2.bel, hz⟩)))
set_option maxRecDepth 100000 in
theorem c39_ne127 (tb : TypeId) (va vb : Value) (it iv : Bool) (w : World) (hne : tb ≠ 127) : Calls Tryz.prog 39 #[.iface 127 va, .iface tb vb, .agg #[.bool it, .bool iv]] w fun e w' => ∃ A n c, e = .returned (.slice A n c) ∧ Below w.heap.size w w' ∧ n ≠ 0 := by
 have HN := Lib.hid hne
 clear hne
 go_enter Tryz.func39, Tryz.ntmps39
 go_wp2_with (go_at_call 58; refine (c58_ne127 tb _ _ _ HN.out).mono ?_; rintro e w1 ⟨rfl, hb1⟩)
 go_ret
 exact ⟨_, _, _, rfl, (below_then ((Below.refl _ _).alloc (Nat.le_refl _) _) (by simp) hb1).alloc (by have := hb1.size; rw [World.size_alloc] at this; omega) _, by decide⟩
set_option maxRecDepth 100000 in
set_option maxHeartbeats 2000000 in
theorem c39_131 (A1 A2 : Option Addr) (n1 n2 k1 k2 : Nat) (tp1 tp2 : Int) (mo1 mo2 : Bool) (it iv : Bool) (xs ys : List (Dot × Sl5)) (w : World) (h1 : Rd w w.heap.size 6 A1 n1 k1 (xs.map dpI)) (h2 : Rd w w.heap.size 6 A2 n2 k2 (ys.map dpI)) (hp1 : ∀ q ∈ xs, PtR w w.heap.size q.1 q.2) (hp2 : ∀ q ∈ ys, PtR w w.heap.size q.1 q.2) (hn1 : n1 ≤ 1000) (hn2 : n2 ≤ 1000) (hT : Lib.Utf8Tabs 3 4 w) (hT4 : 4 < w.heap.size) :
 Calls Tryz.prog 39 #[.iface 131 (.agg #[.slice A1 n1 k1, .int .u8 tp1, .bool mo1]), .iface 131 (.agg #[.slice A2 n2 k2, .int .u8 tp2, .bool mo2]), .agg #[.bool it, .bool iv]] w fun e w' => ∃ A n c, e = .returned (.slice A n c) ∧ Below w.heap.size w w' ∧ (n = 0 ↔ (((tp1 == tp2) && (mo1 == mo2)) && diffSame (dpIEq it iv) xs ys) = true) := by
 have CF : Hid (∀ W, Below w.heap.size w W → Calls Tryz.prog 61 #[.agg #[.slice A1 n1 k1, .int .u8 tp1, .bool mo1], .agg #[.slice A2 n2 k2, .int .u8 tp2, .bool mo2], .agg #[.bool it, .bool iv]] W fun e w' => ∃ A n c, e = .returned (.slice A n c) ∧ Rs W w' (.slice A n c) n ∧ n ≤ 10 ∧ (n = 0 ↔ (((tp1 == tp2) && (mo1 == mo2)) && diffSame (dpIEq it iv) xs ys) = true)) := Lib.hid fun W hW =>
  c61 A1 A2 n1 n2 k1 k2 tp1 tp2 mo1 mo2 it iv xs ys W ((h1.below hW).more hW.size) ((h2.below hW).more hW.size) (fun q hq => ((hp1 q hq).below hW).more hW.size) (fun q hq => ((hp2 q hq).below hW).more hW.size) hn1 hn2 (utf8_below hT hT4 hW) (Nat.lt_of_lt_of_le hT4 hW.size)
 generalize (((tp1 == tp2) && (mo1 == mo2)) && diffSame (dpIEq it iv) xs ys) = D at CF ⊢
 obtain ⟨W0, hW0⟩ : ∃ W0, W0 = w.alloc (.cells #[.bool it, .bool iv] 101) := ⟨_, rfl⟩
 have hb : Below w.heap.size w W0 := ba hW0
 have g0 : W0.cell? ⟨w.heap.size, 0, none⟩ = some (.bool it) := by rw [hW0]; simp [go_sem]
 have g1 : W0.cell? ⟨w.heap.size, 1, none⟩ = some (.bool iv) := by rw [hW0]; simp [go_sem]
 have HB := Lib.hid hb
 have HW := Lib.hid hW0
 clear hW0 hb h1 h2 hp1 hp2 hT
 have n123 := fun (v : Value) (w : World) => asN123 131 v w (by decide)
 have n127 := fun (v : Value) (w : World) => asN127 131 v w (by decide)
 have y131 := fun (v : Value) (w : World) => asY131 v true w
 have z131 := fun (v : Value) (w : World) => asY131 v false w
 go_enter Tryz.func39, Tryz.ntmps39
 go_upto_region 1 with fail
 rw [← HW.out]
 clear HW
 go_upto_region 24 with (first
  | (go_at_call 58; refine (c58_eq131 _ #[.slice A2 n2 k2, .int .u8 tp2, .bool mo2] _ rfl rfl).mono ?_; rintro e w1 ⟨rfl, hb1⟩; have g0 := cellk g0 hb1; have g1 := cellk g1 hb1)
  | ((with_reducible apply arm_store_new 3 infoA131); rfl; simp; rfl; rfl; rfl; rfl))
 obtain ⟨B7, hB7⟩ : ∃ B, B = w1.heap.size := ⟨_, rfl⟩
 obtain ⟨w2, hw2⟩ : ∃ w2, w2 = w1.alloc (.cells #[.slice A1 n1 k1, .int .u8 tp1, .bool mo1] 131) := ⟨_, rfl⟩
 rw [← hw2, ← hB7]
 have hb2 : Below w1.heap.size w1 w2 := ba hw2
 have x0 : w2.cell? ⟨B7, 0, none⟩ = some (.slice A1 n1 k1) := by rw [hw2, hB7]; simp [go_sem]
 have x1 : w2.cell? ⟨B7, 1, none⟩ = some (.int .u8 tp1) := by rw [hw2, hB7]; simp [go_sem]
 have x2 : w2.cell? ⟨B7, 2, none⟩ = some (.bool mo1) := by rw [hw2, hB7]; simp [go_sem]
 replace g0 := cellk g0 hb2
 replace g1 := cellk g1 hb2
 have HBW := Lib.hid (below_then (below_then HB.out HB.out.size hb1) (Nat.le_trans HB.out.size hb1.size) hb2)
 clear hw2 hB7 hb1 hb2
 try simp only [Act.put]
 go_cut [12] from 84 to 88 (fun s8 wx => ∃ A n c W, s8 = .slice A n c ∧ Below w.heap.size w wx ∧ Rs W wx (.slice A n c) n ∧ n ≤ 10 ∧ (n = 0 ↔ D = true))
 case first => (
 as_aux_lemma => (
 first
  | (go_region_held3 (fun w' => w'.cell? ⟨B7, 0, none⟩ = some (.slice A1 n1 k1) ∧ w'.cell? ⟨B7, 1, none⟩ = some (.int .u8 tp1) ∧ w'.cell? ⟨B7, 2, none⟩ = some (.bool mo1) ∧ w'.cell? ⟨w.heap.size, 0, none⟩ = some (.bool it) ∧ w'.cell? ⟨w.heap.size, 1, none⟩ = some (.bool iv)) (first | exact ⟨x0, x1, x2, g0, g1⟩ | exact ⟨cellk (w := w2.drew) x0 hb5, cellk (w := w2.drew) x1 hb5, cellk (w := w2.drew) x2 hb5, cellk (w := w2.drew) g0 hb5, cellk (w := w2.drew) g1 hb5⟩)
   (first | (go_at_call 61; (with_reducible refine (CF.out _ (below_drew HBW.out)).mono ?_); rintro e w5 ⟨rA, rn, rc, rfl, hrs, hr10, hiff⟩; have hb5 := hrs.bel)))
  | fail
 all_goals go_wp2_with fail
 all_goals go_meet
 all_goals exact ⟨rA, rn, rc, _, rfl, below_then (below_drew HBW.out) (below_drew HBW.out).size hb5, hrs, hr10, hiff⟩))
 case rest => (
 obtain ⟨rA, rn, rc, WR, rfl, hbx, hrs, hr10, hiff⟩ := hcut
 obtain ⟨wk, rfl⟩ : ∃ wk : World, wk = wc := ⟨_, rfl⟩
 have HBX := Lib.hid hbx
 have HRS := Lib.hid hrs
 have HIF := Lib.hid hiff
 have HR := Lib.hid (Rs.nil wk)
 clear hbx hrs hiff CF
 by_cases hr0 : rn = 0
 · (
 have q1 : ¬ (0 : Int) < (rn : Int) := by omega
 have HR0 := Lib.hid hr0
 clear hr0
 as_aux_lemma => (
 go_wp2_with fail
 go_ret
 have hz : (0 : Nat) = 0 ↔ D = true := by rw [← HIF.out]; simp [HR0.out]
 first
  | exact ⟨none, 0, 0, rfl, HBX.out, hz⟩
  | exact ⟨none, 0, ⟨0, rfl⟩, HBX.out, hz⟩))
 · (
 have q1 : (0 : Int) < (rn : Int) := by omega
 have HR0 := Lib.hid hr0
 clear hr0
 as_aux_lemma => (
 go_wp2_with (first
  | (at_builtin; refine wpList_reason_new HR.out (by decide) rfl _ _ rfl rfl rfl ?_ ?_; (first | rfl | simp); intro v1 w3 hr1; have HR1 := Lib.hid hr1; have HRR := Lib.hid (HRS.out.below hr1.bel); clear hr1)
  | (at_builtin; refine wpList_reasons rfl _ _ rfl rfl rfl HR1.out HRR.out (by have := HR0.out; omega) (by omega) ?_; intro v2 w4 hr2))
 go_ret
 obtain ⟨fA, fc, rfl⟩ := hr2.slice
 have hz : 0 + 1 + rn = 0 ↔ D = true := by rw [← HIF.out]; have := HR0.out; omega
 first
  | exact ⟨fA, _, fc, rfl, below_then HBX.out HBX.out.size hr2.bel, hz⟩
  | exact ⟨fA, _, ⟨fc, rfl⟩, below_then HBX.out HBX.out.size hr2.bel, hz⟩)))
set_option maxRecDepth 100000 in
theorem c39_ne131 (tb : TypeId) (va vb : Value) (it iv : Bool) (w : World) (hne : tb ≠ 131) : Calls Tryz.prog 39 #[.iface 131 va, .iface tb vb, .agg #[.bool it, .bool iv]] w fun e w' => ∃ A n c, e = .returned (.slice A n c) ∧ Below w.heap.size w w' ∧ n ≠ 0 := by
 have HN := Lib.hid hne
 clear hne
 go_enter Tryz.func39, Tryz.ntmps39
 go_wp2_with (go_at_call 58; refine (c58_ne131 tb _ _ _ HN.out).mono ?_; rintro e w1 ⟨rfl, hb1⟩)
 go_ret
 exact ⟨_, _, _, rfl, (below_then ((Below.refl _ _).alloc (Nat.le_refl _) _) (by simp) hb1).alloc (by have := hb1.size; rw [World.size_alloc] at this; omega) _, by decide⟩
set_option maxRecDepth 100000 in
set_option maxHeartbeats 2000000 in
theorem c39_134 (A1 A2 : Option Addr) (n1 n2 k1 k2 : Nat) (tp1 tp2 : Int) (mo1 mo2 : Bool) (it iv : Bool) (xs ys : List (Dot × Sl5)) (w : World) (h1 : Rd w w.heap.size 6 A1 n1 k1 (xs.map dpF)) (h2 : Rd w w.heap.size 6 A2 n2 k2 (ys.map dpF)) (hp1 : ∀ q ∈ xs, PtR w w.heap.size q.1 q.2) (hp2 : ∀ q ∈ ys, PtR w w.heap.size q.1 q.2) (hn1 : n1 ≤ 1000) (hn2 : n2 ≤ 1000) (hT : Lib.Utf8Tabs 3 4 w) (hT4 : 4 < w.heap.size) :
 Calls Tryz.prog 39 #[.iface 134 (.agg #[.slice A1 n1 k1, .int .u8 tp1, .bool mo1]), .iface 134 (.agg #[.slice A2 n2 k2, .int .u8 tp2, .bool mo2]), .agg #[.bool it, .bool iv]] w fun e w' => ∃ A n c, e = .returned (.slice A n c) ∧ Below w.heap.size w w' ∧ (n = 0 ↔ (((tp1 == tp2) && (mo1 == mo2)) && diffSame (dpFEq it iv) xs ys) = true) := by
 have CF : Hid (∀ W, Below w.heap.size w W → Calls Tryz.prog 62 #[.agg #[.slice A1 n1 k1, .int .u8 tp1, .bool mo1], .agg #[.slice A2 n2 k2, .int .u8 tp2, .bool mo2], .agg #[.bool it, .bool iv]] W fun e w' => ∃ A n c, e = .returned (.slice A n c) ∧ Rs W w' (.slice A n c) n ∧ n ≤ 10 ∧ (n = 0 ↔ (((tp1 == tp2) && (mo1 == mo2)) && diffSame (dpFEq it iv) xs ys) = true)) := Lib.hid fun W hW =>
  c62 A1 A2 n1 n2 k1 k2 tp1 tp2 mo1 mo2 it iv xs ys W ((h1.below hW).more hW.size) ((h2.below hW).more hW.size) (fun q hq => ((hp1 q hq).below hW).more hW.size) (fun q hq => ((hp2 q hq).below hW).more hW.size) hn1 hn2 (utf8_below hT hT4 hW) (Nat.lt_of_lt_of_le hT4 hW.size)
 generalize (((tp1 == tp2) && (mo1 == mo2)) && diffSame (dpFEq it iv) xs ys) = D at CF ⊢
 obtain ⟨W0, hW0⟩ : ∃ W0, W0 = w.alloc (.cells #[.bool it, .bool iv] 101) := ⟨_, rfl⟩
 have hb : Below w.heap.size w W0 := ba hW0
 have g0 : W0.cell? ⟨w.heap.size, 0, none⟩ = some (.bool it) := by rw [hW0]; simp [go_sem]
 have g1 : W0.cell? ⟨w.heap.size, 1, none⟩ = some (.bool iv) := by rw [hW0]; simp [go_sem]
 have HB := Lib.hid hb
 have HW := Lib.hid hW0
 clear hW0 hb h1 h2 hp1 hp2 hT
 have n123 := fun (v : Value) (w : World) => asN123 134 v w (by decide)
 have n127 := fun (v : Value) (w : World) => asN127 134 v w (by decide)
 have n131 := fun (v : Value) (w : World) => asN131 134 v w (by decide)
 have y134 := fun (v : Value) (w : World) => asY134 v true w
 have z134 := fun (v : Value) (w : World) => asY134 v false w
 go_enter Tryz.func39, Tryz.ntmps39
 go_upto_region 1 with fail
 rw [← HW.out]
 clear HW
 go_upto_region 30 with (first
  | (go_at_call 58; refine (c58_eq134 _ #[.slice A2 n2 k2, .int .u8 tp2, .bool mo2] _ rfl rfl).mono ?_; rintro e w1 ⟨rfl, hb1⟩; have g0 := cellk g0 hb1; have g1 := cellk g1 hb1)
  | ((with_reducible apply arm_store_new 3 infoA134); rfl; simp; rfl; rfl; rfl; rfl))
 obtain ⟨B7, hB7⟩ : ∃ B, B = w1.heap.size := ⟨_, rfl⟩
 obtain ⟨w2, hw2⟩ : ∃ w2, w2 = w1.alloc (.cells #[.slice A1 n1 k1, .int .u8 tp1, .bool mo1] 134) := ⟨_, rfl⟩
 rw [← hw2, ← hB7]
 have hb2 : Below w1.heap.size w1 w2 := ba hw2
 have x0 : w2.cell? ⟨B7, 0, none⟩ = some (.slice A1 n1 k1) := by rw [hw2, hB7]; simp [go_sem]
 have x1 : w2.cell? ⟨B7, 1, none⟩ = some (.int .u8 tp1) := by rw [hw2, hB7]; simp [go_sem]
 have x2 : w2.cell? ⟨B7, 2, none⟩ = some (.bool mo1) := by rw [hw2, hB7]; simp [go_sem]
 replace g0 := cellk g0 hb2
 replace g1 := cellk g1 hb2
 have HBW := Lib.hid (below_then (below_then HB.out HB.out.size hb1) (Nat.le_trans HB.out.size hb1.size) hb2)
 clear hw2 hB7 hb1 hb2
 try simp only [Act.put]
 go_cut [14] from 101 to 105 (fun s8 wx => ∃ A n c W, s8 = .slice A n c ∧ Below w.heap.size w wx ∧ Rs W wx (.slice A n c) n ∧ n ≤ 10 ∧ (n = 0 ↔ D = true))
 case first => (
 as_aux_lemma => (
 first
  | (go_region_held3 (fun w' => w'.cell? ⟨B7, 0, none⟩ = some (.slice A1 n1 k1) ∧ w'.cell? ⟨B7, 1, none⟩ = some (.int .u8 tp1) ∧ w'.cell? ⟨B7, 2, none⟩ = some (.bool mo1) ∧ w'.cell? ⟨w.heap.size, 0, none⟩ = some (.bool it) ∧ w'.cell? ⟨w.heap.size, 1, none⟩ = some (.bool iv)) (first | exact ⟨x0, x1, x2, g0, g1⟩ | exact ⟨cellk (w := w2.drew) x0 hb5, cellk (w := w2.drew) x1 hb5, cellk (w := w2.drew) x2 hb5, cellk (w := w2.drew) g0 hb5, cellk (w := w2.drew) g1 hb5⟩)
   (first | (go_at_call 62; (with_reducible refine (CF.out _ (below_drew HBW.out)).mono ?_); rintro e w5 ⟨rA, rn, rc, rfl, hrs, hr10, hiff⟩; have hb5 := hrs.bel)))
  | fail
 all_goals go_wp2_with fail
 all_goals go_meet
 all_goals exact ⟨rA, rn, rc, _, rfl, below_then (below_drew HBW.out) (below_drew HBW.out).size hb5, hrs, hr10, hiff⟩))
 case rest => (
 obtain ⟨rA, rn, rc, WR, rfl, hbx, hrs, hr10, hiff⟩ := hcut
 obtain ⟨wk, rfl⟩ : ∃ wk : World, wk = wc := ⟨_, rfl⟩
 have HBX := Lib.hid hbx
 have HRS := Lib.hid hrs
 have HIF := Lib.hid hiff
 have HR := Lib.hid (Rs.nil wk)
 clear hbx hrs hiff CF
 by_cases hr0 : rn = 0
 · (
 have q1 : ¬ (0 : Int) < (rn : Int) := by omega
 have HR0 := Lib.hid hr0
 clear hr0
 as_aux_lemma => (
 go_wp2_with fail
 go_ret
 have hz : (0 : Nat) = 0 ↔ D = true := by rw [← HIF.out]; simp [HR0.out]
 first
  | exact ⟨none, 0, 0, rfl, HBX.out, hz⟩
  | exact ⟨none, 0, ⟨0, rfl⟩, HBX.out, hz⟩))
 · (
 have q1 : (0 : Int) < (rn : Int) := by omega
 have HR0 := Lib.hid hr0
 clear hr0
 as_aux_lemma => (
 go_wp2_with (first
  | (at_builtin; refine wpList_reason_new HR.out (by decide) rfl _ _ rfl rfl rfl ?_ ?_; (first | rfl | simp); intro v1 w3 hr1; have HR1 := Lib.hid hr1; have HRR := Lib.hid (HRS.out.below hr1.bel); clear hr1)
  | (at_builtin; refine wpList_reasons rfl _ _ rfl rfl rfl HR1.out HRR.out (by have := HR0.out; omega) (by omega) ?_; intro v2 w4 hr2))
 go_ret
 obtain ⟨fA, fc, rfl⟩ := hr2.slice
 have hz : 0 + 1 + rn = 0 ↔ D = true := by rw [← HIF.out]; have := HR0.out; omega
 first
  | exact ⟨fA, _, fc, rfl, below_then HBX.out HBX.out.size hr2.bel, hz⟩
  | exact ⟨fA, _, ⟨fc, rfl⟩, below_then HBX.out HBX.out.size hr2.bel, hz⟩)))
set_option maxRecDepth 100000 in
theorem c39_ne134 (tb : TypeId) (va vb : Value) (it iv : Bool) (w : World) (hne : tb ≠ 134) : Calls Tryz.prog 39 #[.iface 134 va, .iface tb vb, .agg #[.bool it, .bool iv]] w fun e w' => ∃ A n c, e = .returned (.slice A n c) ∧ Below w.heap.size w w' ∧ n ≠ 0 := by
 have HN := Lib.hid hne
 clear hne
 go_enter Tryz.func39, Tryz.ntmps39
 go_wp2_with (go_at_call 58; refine (c58_ne134 tb _ _ _ HN.out).mono ?_; rintro e w1 ⟨rfl, hb1⟩)
 go_ret
 exact ⟨_, _, _, rfl, (below_then ((Below.refl _ _).alloc (Nat.le_refl _) _) (by simp) hb1).alloc (by have := hb1.size; rw [World.size_alloc] at this; omega) _, by decide⟩
set_option maxRecDepth 100000 in
set_option maxHeartbeats 2000000 in
theorem c39_138 (A1 A2 : Option Addr) (n1 n2 k1 k2 : Nat) (tp1 tp2 : Int) (it iv : Bool) (xs ys : List (Dot × Sl5)) (w : World) (h1 : Rd w w.heap.size 13 A1 n1 k1 (xs.map hpI)) (h2 : Rd w w.heap.size 13 A2 n2 k2 (ys.map hpI)) (hp1 : ∀ q ∈ xs, PtR w w.heap.size q.1 q.2) (hp2 : ∀ q ∈ ys, PtR w w.heap.size q.1 q.2) (hn1 : n1 ≤ 1000) (hn2 : n2 ≤ 1000) (hT : Lib.Utf8Tabs 3 4 w) (hT4 : 4 < w.heap.size) :
 Calls Tryz.prog 39 #[.iface 138 (.agg #[.slice A1 n1 k1, .int .u8 tp1]), .iface 138 (.agg #[.slice A2 n2 k2, .int .u8 tp2]), .agg #[.bool it, .bool iv]] w fun e w' => ∃ A n c, e = .returned (.slice A n c) ∧ Below w.heap.size w w' ∧ (n = 0 ↔ ((tp1 == tp2) && diffSame (hpIEq it iv) xs ys) = true) := by
 have CF : Hid (∀ W, Below w.heap.size w W → Calls Tryz.prog 63 #[.agg #[.slice A1 n1 k1, .int .u8 tp1], .agg #[.slice A2 n2 k2, .int .u8 tp2], .agg #[.bool it, .bool iv]] W fun e w' => ∃ A n c, e = .returned (.slice A n c) ∧ Rs W w' (.slice A n c) n ∧ n ≤ 10 ∧ (n = 0 ↔ ((tp1 == tp2) && diffSame (hpIEq it iv) xs ys) = true)) := Lib.hid fun W hW =>
  c63 A1 A2 n1 n2 k1 k2 tp1 tp2 it iv xs ys W ((h1.below hW).more hW.size) ((h2.below hW).more hW.size) (fun q hq => ((hp1 q hq).below hW).more hW.size) (fun q hq => ((hp2 q hq).below hW).more hW.size) hn1 hn2 (utf8_below hT hT4 hW) (Nat.lt_of_lt_of_le hT4 hW.size)
 generalize ((tp1 == tp2) && diffSame (hpIEq it iv) xs ys) = D at CF ⊢
 obtain ⟨W0, hW0⟩ : ∃ W0, W0 = w.alloc (.cells #[.bool it, .bool iv] 101) := ⟨_, rfl⟩
 have hb : Below w.heap.size w W0 := ba hW0
 have g0 : W0.cell? ⟨w.heap.size, 0, none⟩ = some (.bool it) := by rw [hW0]; simp [go_sem]
 have g1 : W0.cell? ⟨w.heap.size, 1, none⟩ = some (.bool iv) := by rw [hW0]; simp [go_sem]
 have HB := Lib.hid hb
 have HW := Lib.hid hW0
 clear hW0 hb h1 h2 hp1 hp2 hT
 have n123 := fun (v : Value) (w : World) => asN123 138 v w (by decide)
 have n127 := fun (v : Value) (w : World) => asN127 138 v w (by decide)
 have n131 := fun (v : Value) (w : World) => asN131 138 v w (by decide)
 have n134 := fun (v : Value) (w : World) => asN134 138 v w (by decide)
 have y138 := fun (v : Value) (w : World) => asY138 v true w
 have z138 := fun (v : Value) (w : World) => asY138 v false w
 go_enter Tryz.func39, Tryz.ntmps39
 go_upto_region 1 with fail
 rw [← HW.out]
 clear HW
 go_upto_region 36 with (first
  | (go_at_call 58; refine (c58_eq138 _ #[.slice A2 n2 k2, .int .u8 tp2] _ rfl rfl).mono ?_; rintro e w1 ⟨rfl, hb1⟩; have g0 := cellk g0 hb1; have g1 := cellk g1 hb1)
  | ((with_reducible apply arm_store_new 2 infoA138); rfl; simp; rfl; rfl; rfl; rfl))
 obtain ⟨B7, hB7⟩ : ∃ B, B = w1.heap.size := ⟨_, rfl⟩
 obtain ⟨w2, hw2⟩ : ∃ w2, w2 = w1.alloc (.cells #[.slice A1 n1 k1, .int .u8 tp1] 138) := ⟨_, rfl⟩
 rw [← hw2, ← hB7]
 have hb2 : Below w1.heap.size w1 w2 := ba hw2
 have x0 : w2.cell? ⟨B7, 0, none⟩ = some (.slice A1 n1 k1) := by rw [hw2, hB7]; simp [go_sem]
 have x1 : w2.cell? ⟨B7, 1, none⟩ = some (.int .u8 tp1) := by rw [hw2, hB7]; simp [go_sem]
 replace g0 := cellk g0 hb2
 replace g1 := cellk g1 hb2
 have HBW := Lib.hid (below_then (below_then HB.out HB.out.size hb1) (Nat.le_trans HB.out.size hb1.size) hb2)
 clear hw2 hB7 hb1 hb2
 try simp only [Act.put]
 go_cut [16] from 118 to 122 (fun s8 wx => ∃ A n c W, s8 = .slice A n c ∧ Below w.heap.size w wx ∧ Rs W wx (.slice A n c) n ∧ n ≤ 10 ∧ (n = 0 ↔ D = true))
 case first => (
 as_aux_lemma => (
 first
  | (go_region_held3 (fun w' => w'.cell? ⟨B7, 0, none⟩ = some (.slice A1 n1 k1) ∧ w'.cell? ⟨B7, 1, none⟩ = some (.int .u8 tp1) ∧ w'.cell? ⟨w.heap.size, 0, none⟩ = some (.bool it) ∧ w'.cell? ⟨w.heap.size, 1, none⟩ = some (.bool iv)) (first | exact ⟨x0, x1, g0, g1⟩ | exact ⟨cellk (w := w2.drew) x0 hb5, cellk (w := w2.drew) x1 hb5, cellk (w := w2.drew) g0 hb5, cellk (w := w2.drew) g1 hb5⟩)
   (first | (go_at_call 63; (with_reducible refine (CF.out _ (below_drew HBW.out)).mono ?_); rintro e w5 ⟨rA, rn, rc, rfl, hrs, hr10, hiff⟩; have hb5 := hrs.bel)))
  | fail
 all_goals go_wp2_with fail
 all_goals go_meet
 all_goals exact ⟨rA, rn, rc, _, rfl, below_then (below_drew HBW.out) (below_drew HBW.out).size hb5, hrs, hr10, hiff⟩))
 case rest => (
 obtain ⟨rA, rn, rc, WR, rfl, hbx, hrs, hr10, hiff⟩ := hcut
 obtain ⟨wk, rfl⟩ : ∃ wk : World, wk = wc := ⟨_, rfl⟩
 have HBX := Lib.hid hbx
 have HRS := Lib.hid hrs
 have HIF := Lib.hid hiff
 have HR := Lib.hid (Rs.nil wk)
 clear hbx hrs hiff CF
 by_cases hr0 : rn = 0
 · (
 have q1 : ¬ (0 : Int) < (rn : Int) := by omega
 have HR0 := Lib.hid hr0
 clear hr0
 as_aux_lemma => (
 go_wp2_with fail
 go_ret
 have hz : (0 : Nat) = 0 ↔ D = true := by rw [← HIF.out]; simp [HR0.out]
 first
  | exact ⟨none, 0, 0, rfl, HBX.out, hz⟩
  | exact ⟨none, 0, ⟨0, rfl⟩, HBX.out, hz⟩))
 · (
 have q1 : (0 : Int) < (rn : Int) := by omega
 have HR0 := Lib.hid hr0
 clear hr0
 as_aux_lemma => (
 go_wp2_with (first
  | (at_builtin; refine wpList_reason_new HR.out (by decide) rfl _ _ rfl rfl rfl ?_ ?_; (first | rfl | simp); intro v1 w3 hr1; have HR1 := Lib.hid hr1; have HRR := Lib.hid (HRS.out.below hr1.bel); clear hr1)
  | (at_builtin; refine wpList_reasons rfl _ _ rfl rfl rfl HR1.out HRR.out (by have := HR0.out; omega) (by omega) ?_; intro v2 w4 hr2))
 go_ret
 obtain ⟨fA, fc, rfl⟩ := hr2.slice
 have hz : 0 + 1 + rn = 0 ↔ D = true := by rw [← HIF.out]; have := HR0.out; omega
 first
  | exact ⟨fA, _, fc, rfl, below_then HBX.out HBX.out.size hr2.bel, hz⟩
  | exact ⟨fA, _, ⟨fc, rfl⟩, below_then HBX.out HBX.out.size hr2.bel, hz⟩)))
set_option maxRecDepth 100000 in
theorem c39_ne138 (tb : TypeId) (va vb : Value) (it iv : Bool) (w : World) (hne : tb ≠ 138) : Calls Tryz.prog 39 #[.iface 138 va, .iface tb vb, .agg #[.bool it, .bool iv]] w fun e w' => ∃ A n c, e = .returned (.slice A n c) ∧ Below w.heap.size w w' ∧ n ≠ 0 := by
 have HN := Lib.hid hne
 clear hne
 go_enter Tryz.func39, Tryz.ntmps39
 go_wp2_with (go_at_call 58; refine (c58_ne138 tb _ _ _ HN.out).mono ?_; rintro e w1 ⟨rfl, hb1⟩)
 go_ret
 exact ⟨_, _, _, rfl, (below_then ((Below.refl _ _).alloc (Nat.le_refl _) _) (by simp) hb1).alloc (by have := hb1.size; rw [World.size_alloc] at this; omega) _, by decide⟩
set_option maxRecDepth 100000 in
set_option maxHeartbeats 2000000 in
theorem c39_142 (A1 A2 : Option Addr) (n1 n2 k1 k2 : Nat) (tp1 tp2 : Int) (it iv : Bool) (xs ys : List (Dot × Sl5)) (w : World) (h1 : Rd w w.heap.size 13 A1 n1 k1 (xs.map hpF)) (h2 : Rd w w.heap.size 13 A2 n2 k2 (ys.map hpF)) (hp1 : ∀ q ∈ xs, PtR w w.heap.size q.1 q.2) (hp2 : ∀ q ∈ ys, PtR w w.heap.size q.1 q.2) (hn1 : n1 ≤ 1000) (hn2 : n2 ≤ 1000) (hT : Lib.Utf8Tabs 3 4 w) (hT4 : 4 < w.heap.size) :
 Calls Tryz.prog 39 #[.iface 142 (.agg #[.slice A1 n1 k1, .int .u8 tp1]), .iface 142 (.agg #[.slice A2 n2 k2, .int .u8 tp2]), .agg #[.bool it, .bool iv]] w fun e w' => ∃ A n c, e = .returned (.slice A n c) ∧ Below w.heap.size w w' ∧ (n = 0 ↔ ((tp1 == tp2) && diffSame (hpFEq it iv) xs ys) = true) := by
 have CF : Hid (∀ W, Below w.heap.size w W → Calls Tryz.prog 64 #[.agg #[.slice A1 n1 k1, .int .u8 tp1], .agg #[.slice A2 n2 k2, .int .u8 tp2], .agg #[.bool it, .bool iv]] W fun e w' => ∃ A n c, e = .returned (.slice A n c) ∧ Rs W w' (.slice A n c) n ∧ n ≤ 10 ∧ (n = 0 ↔ ((tp1 == tp2) && diffSame (hpFEq it iv) xs ys) = true)) := Lib.hid fun W hW =>
  c64 A1 A2 n1 n2 k1 k2 tp1 tp2 it iv xs ys W ((h1.below hW).more hW.size) ((h2.below hW).more hW.size) (fun q hq => ((hp1 q hq).below hW).more hW.size) (fun q hq => ((hp2 q hq).below hW).more hW.size) hn1 hn2 (utf8_below hT hT4 hW) (Nat.lt_of_lt_of_le hT4 hW.size)
 generalize ((tp1 == tp2) && diffSame (hpFEq it iv) xs ys) = D at CF ⊢
 obtain ⟨W0, hW0⟩ : ∃ W0, W0 = w.alloc (.cells #[.bool it, .bool iv] 101) := ⟨_, rfl⟩
 have hb : Below w.heap.size w W0 := ba hW0
 have g0 : W0.cell? ⟨w.heap.size, 0, none⟩ = some (.bool it) := by rw [hW0]; simp [go_sem]
 have g1 : W0.cell? ⟨w.heap.size, 1, none⟩ = some (.bool iv) := by rw [hW0]; simp [go_sem]
 have HB := Lib.hid hb
 have HW := Lib.hid hW0
 clear hW0 hb h1 h2 hp1 hp2 hT
 have n123 := fun (v : Value) (w : World) => asN123 142 v w (by decide)
 have n127 := fun (v : Value) (w : World) => asN127 142 v w (by decide)
 have n131 := fun (v : Value) (w : World) => asN131 142 v w (by decide)
 have n134 := fun (v : Value) (w : World) => asN134 142 v w (by decide)
 have n138 := fun (v : Value) (w : World) => asN138 142 v w (by decide)
 have y142 := fun (v : Value) (w : World) => asY142 v true w
 have z142 := fun (v : Value) (w : World) => asY142 v false w
 go_enter Tryz.func39, Tryz.ntmps39
 go_upto_region 1 with fail
 rw [← HW.out]
 clear HW
 go_upto_region 42 with (first
  | (go_at_call 58; refine (c58_eq142 _ #[.slice A2 n2 k2, .int .u8 tp2] _ rfl rfl).mono ?_; rintro e w1 ⟨rfl, hb1⟩; have g0 := cellk g0 hb1; have g1 := cellk g1 hb1)
  | ((with_reducible apply arm_store_new 2 infoA142); rfl; simp; rfl; rfl; rfl; rfl))
 obtain ⟨B7, hB7⟩ : ∃ B, B = w1.heap.size := ⟨_, rfl⟩
 obtain ⟨w2, hw2⟩ : ∃ w2, w2 = w1.alloc (.cells #[.slice A1 n1 k1, .int .u8 tp1] 142) := ⟨_, rfl⟩
 rw [← hw2, ← hB7]
 have hb2 : Below w1.heap.size w1 w2 := ba hw2
 have x0 : w2.cell? ⟨B7, 0, none⟩ = some (.slice A1 n1 k1) := by rw [hw2, hB7]; simp [go_sem]
 have x1 : w2.cell? ⟨B7, 1, none⟩ = some (.int .u8 tp1) := by rw [hw2, hB7]; simp [go_sem]
 replace g0 := cellk g0 hb2
 replace g1 := cellk g1 hb2
 have HBW := Lib.hid (below_then (below_then HB.out HB.out.size hb1) (Nat.le_trans HB.out.size hb1.size) hb2)
 clear hw2 hB7 hb1 hb2
 try simp only [Act.put]
 go_cut [18] from 135 to 139 (fun s8 wx => ∃ A n c W, s8 = .slice A n c ∧ Below w.heap.size w wx ∧ Rs W wx (.slice A n c) n ∧ n ≤ 10 ∧ (n = 0 ↔ D = true))
 case first => (
 as_aux_lemma => (
 first
  | (go_region_held3 (fun w' => w'.cell? ⟨B7, 0, none⟩ = some (.slice A1 n1 k1) ∧ w'.cell? ⟨B7, 1, none⟩ = some (.int .u8 tp1) ∧ w'.cell? ⟨w.heap.size, 0, none⟩ = some (.bool it) ∧ w'.cell? ⟨w.heap.size, 1, none⟩ = some (.bool iv)) (first | exact ⟨x0, x1, g0, g1⟩ | exact ⟨cellk (w := w2.drew) x0 hb5, cellk (w := w2.drew) x1 hb5, cellk (w := w2.drew) g0 hb5, cellk (w := w2.drew) g1 hb5⟩)
   (first | (go_at_call 64; (with_reducible refine (CF.out _ (below_drew HBW.out)).mono ?_); rintro e w5 ⟨rA, rn, rc, rfl, hrs, hr10, hiff⟩; have hb5 := hrs.bel)))
  | fail
 all_goals go_wp2_with fail
 all_goals go_meet
 all_goals exact ⟨rA, rn, rc, _, rfl, below_then (below_drew HBW.out) (below_drew HBW.out).size hb5, hrs, hr10, hiff⟩))
 case rest => (
 obtain ⟨rA, rn, rc, WR, rfl, hbx, hrs, hr10, hiff⟩ := hcut
 obtain ⟨wk, rfl⟩ : ∃ wk : World, wk = wc := ⟨_, rfl⟩
 have HBX := Lib.hid hbx
 have HRS := Lib.hid hrs
 have HIF := Lib.hid hiff
 have HR := Lib.hid (Rs.nil wk)
 clear hbx hrs hiff CF
 by_cases hr0 : rn = 0
 · (
 have q1 : ¬ (0 : Int) < (rn : Int) := by omega
 have HR0 := Lib.hid hr0
 clear hr0
 as_aux_lemma => (
 go_wp2_with fail
 go_ret
 have hz : (0 : Nat) = 0 ↔ D = true := by rw [← HIF.out]; simp [HR0.out]
 first
  | exact ⟨none, 0, 0, rfl, HBX.out, hz⟩
  | exact ⟨none, 0, ⟨0, rfl⟩, HBX.out, hz⟩))
 · (
 have q1 : (0 : Int) < (rn : Int) := by omega
 have HR0 := Lib.hid hr0
 clear hr0
 as_aux_lemma => (
 go_wp2_with (first
  | (at_builtin; refine wpList_reason_new HR.out (by decide) rfl _ _ rfl rfl rfl ?_ ?_; (first | rfl | simp); intro v1 w3 hr1; have HR1 := Lib.hid hr1; have HRR := Lib.hid (HRS.out.below hr1.bel); clear hr1)
  | (at_builtin; refine wpList_reasons rfl _ _ rfl rfl rfl HR1.out HRR.out (by have := HR0.out; omega) (by omega) ?_; intro v2 w4 hr2))
 go_ret
 obtain ⟨fA, fc, rfl⟩ := hr2.slice
 have hz : 0 + 1 + rn = 0 ↔ D = true := by rw [← HIF.out]; have := HR0.out; omega
 first
  | exact ⟨fA, _, fc, rfl, below_then HBX.out HBX.out.size hr2.bel, hz⟩
  | exact ⟨fA, _, ⟨fc, rfl⟩, below_then HBX.out HBX.out.size hr2.bel, hz⟩)))
set_option maxRecDepth 100000 in
theorem c39_ne142 (tb : TypeId) (va vb : Value) (it iv : Bool) (w : World) (hne : tb ≠ 142) : Calls Tryz.prog 39 #[.iface 142 va, .iface tb vb, .agg #[.bool it, .bool iv]] w fun e w' => ∃ A n c, e = .returned (.slice A n c) ∧ Below w.heap.size w w' ∧ n ≠ 0 := by
 have HN := Lib.hid hne
 clear hne
 go_enter Tryz.func39, Tryz.ntmps39
 go_wp2_with (go_at_call 58; refine (c58_ne142 tb _ _ _ HN.out).mono ?_; rintro e w1 ⟨rfl, hb1⟩)
 go_ret
 exact ⟨_, _, _, rfl, (below_then ((Below.refl _ _).alloc (Nat.le_refl _) _) (by simp) hb1).alloc (by have := hb1.size; rw [World.size_alloc] at this; omega) _, by decide⟩
set_option maxRecDepth 100000 in
set_option maxHeartbeats 2000000 in
theorem c39_146 (A1 A2 : Option Addr) (n1 n2 k1 k2 : Nat) (tp1 tp2 : Int) (it iv : Bool) (xs ys : List (Dot × Sl5)) (w : World) (h1 : Rd w w.heap.size 18 A1 n1 k1 (xs.map epI)) (h2 : Rd w w.heap.size 18 A2 n2 k2 (ys.map epI)) (hp1 : ∀ q ∈ xs, PtR w w.heap.size q.1 q.2) (hp2 : ∀ q ∈ ys, PtR w w.heap.size q.1 q.2) (hn1 : n1 ≤ 1000) (hn2 : n2 ≤ 1000) (hT : Lib.Utf8Tabs 3 4 w) (hT4 : 4 < w.heap.size) :
 Calls Tryz.prog 39 #[.iface 146 (.agg #[.slice A1 n1 k1, .int .u8 tp1]), .iface 146 (.agg #[.slice A2 n2 k2, .int .u8 tp2]), .agg #[.bool it, .bool iv]] w fun e w' => ∃ A n c, e = .returned (.slice A n c) ∧ Below w.heap.size w w' ∧ (n = 0 ↔ ((tp1 == tp2) && diffSame (epIEq it iv) xs ys) = true) := by
 have CF : Hid (∀ W, Below w.heap.size w W → Calls Tryz.prog 65 #[.agg #[.slice A1 n1 k1, .int .u8 tp1], .agg #[.slice A2 n2 k2, .int .u8 tp2], .agg #[.bool it, .bool iv]] W fun e w' => ∃ A n c, e = .returned (.slice A n c) ∧ Rs W w' (.slice A n c) n ∧ n ≤ 10 ∧ (n = 0 ↔ ((tp1 == tp2) && diffSame (epIEq it iv) xs ys) = true)) := Lib.hid fun W hW =>
  c65 A1 A2 n1 n2 k1 k2 tp1 tp2 it iv xs ys W ((h1.below hW).more hW.size) ((h2.below hW).more hW.size) (fun q hq => ((hp1 q hq).below hW).more hW.size) (fun q hq => ((hp2 q hq).below hW).more hW.size) hn1 hn2 (utf8_below hT hT4 hW) (Nat.lt_of_lt_of_le hT4 hW.size)
 generalize ((tp1 == tp2) && diffSame (epIEq it iv) xs ys) = D at CF ⊢
 obtain ⟨W0, hW0⟩ : ∃ W0, W0 = w.alloc (.cells #[.bool it, .bool iv] 101) := ⟨_, rfl⟩
 have hb : Below w.heap.size w W0 := ba hW0
 have g0 : W0.cell? ⟨w.heap.size, 0, none⟩ = some (.bool it) := by rw [hW0]; simp [go_sem]
 have g1 : W0.cell? ⟨w.heap.size, 1, none⟩ = some (.bool iv) := by rw [hW0]; simp [go_sem]
 have HB := Lib.hid hb
 have HW := Lib.hid hW0
 clear hW0 hb h1 h2 hp1 hp2 hT
 have n123 := fun (v : Value) (w : World) => asN123 146 v w (by decide)
 have n127 := fun (v : Value) (w : World) => asN127 146 v w (by decide)
 have n131 := fun (v : Value) (w : World) => asN131 146 v w (by decide)
 have n134 := fun (v : Value) (w : World) => asN134 146 v w (by decide)
 have n138 := fun (v : Value) (w : World) => asN138 146 v w (by decide)
 have n142 := fun (v : Value) (w : World) => asN142 146 v w (by decide)
 have y146 := fun (v : Value) (w : World) => asY146 v true w
 have z146 := fun (v : Value) (w : World) => asY146 v false w
 go_enter Tryz.func39, Tryz.ntmps39
 go_upto_region 1 with fail
 rw [← HW.out]
 clear HW
 go_upto_region 48 with (first
  | (go_at_call 58; refine (c58_eq146 _ #[.slice A2 n2 k2, .int .u8 tp2] _ rfl rfl).mono ?_; rintro e w1 ⟨rfl, hb1⟩; have g0 := cellk g0 hb1; have g1 := cellk g1 hb1)
  | ((with_reducible apply arm_store_new 2 infoA146); rfl; simp; rfl; rfl; rfl; rfl))
 obtain ⟨B7, hB7⟩ : ∃ B, B = w1.heap.size := ⟨_, rfl⟩
 obtain ⟨w2, hw2⟩ : ∃ w2, w2 = w1.alloc (.cells #[.slice A1 n1 k1, .int .u8 tp1] 146) := ⟨_, rfl⟩
 rw [← hw2, ← hB7]
 have hb2 : Below w1.heap.size w1 w2 := ba hw2
 have x0 : w2.cell? ⟨B7, 0, none⟩ = some (.slice A1 n1 k1) := by rw [hw2, hB7]; simp [go_sem]
 have x1 : w2.cell? ⟨B7, 1, none⟩ = some (.int .u8 tp1) := by rw [hw2, hB7]; simp [go_sem]
 replace g0 := cellk g0 hb2
 replace g1 := cellk g1 hb2
 have HBW := Lib.hid (below_then (below_then HB.out HB.out.size hb1) (Nat.le_trans HB.out.size hb1.size) hb2)
 clear hw2 hB7 hb1 hb2
 try simp only [Act.put]
 go_cut [20] from 152 to 156 (fun s8 wx => ∃ A n c W, s8 = .slice A n c ∧ Below w.heap.size w wx ∧ Rs W wx (.slice A n c) n ∧ n ≤ 10 ∧ (n = 0 ↔ D = true))
 case first => (
 as_aux_lemma => (
 first
  | (go_region_held3 (fun w' => w'.cell? ⟨B7, 0, none⟩ = some (.slice A1 n1 k1) ∧ w'.cell? ⟨B7, 1, none⟩ = some (.int .u8 tp1) ∧ w'.cell? ⟨w.heap.size, 0, none⟩ = some (.bool it) ∧ w'.cell? ⟨w.heap.size, 1, none⟩ = some (.bool iv)) (first | exact ⟨x0, x1, g0, g1⟩ | exact ⟨cellk (w := w2.drew) x0 hb5, cellk (w := w2.drew) x1 hb5, cellk (w := w2.drew) g0 hb5, cellk (w := w2.drew) g1 hb5⟩)
   (first | (go_at_call 65; (with_reducible refine (CF.out _ (below_drew HBW.out)).mono ?_); rintro e w5 ⟨rA, rn, rc, rfl, hrs, hr10, hiff⟩; have hb5 := hrs.bel)))
  | fail
 all_goals go_wp2_with fail
 all_goals go_meet
 all_goals exact ⟨rA, rn, rc, _, rfl, below_then (below_drew HBW.out) (below_drew HBW.out).size hb5, hrs, hr10, hiff⟩))
 case rest => (
 obtain ⟨rA, rn, rc, WR, rfl, hbx, hrs, hr10, hiff⟩ := hcut
 obtain ⟨wk, rfl⟩ : ∃ wk : World, wk = wc := ⟨_, rfl⟩
 have HBX := Lib.hid hbx
 have HRS := Lib.hid hrs
 have HIF := Lib.hid hiff
 have HR := Lib.hid (Rs.nil wk)
 clear hbx hrs hiff CF
 by_cases hr0 : rn = 0
 · (
 have q1 : ¬ (0 : Int) < (rn : Int) := by omega
 have HR0 := Lib.hid hr0
 clear hr0
 as_aux_lemma => (
 go_wp2_with fail
 go_ret
 have hz : (0 : Nat) = 0 ↔ D = true := by rw [← HIF.out]; simp [HR0.out]
 first
  | exact ⟨none, 0, 0, rfl, HBX.out, hz⟩
  | exact ⟨none, 0, ⟨0, rfl⟩, HBX.out, hz⟩))
 · (
 have q1 : (0 : Int) < (rn : Int) := by omega
 have HR0 := Lib.hid hr0
 clear hr0
 as_aux_lemma => (
 go_wp2_with (first
  | (at_builtin; refine wpList_reason_new HR.out (by decide) rfl _ _ rfl rfl rfl ?_ ?_; (first | rfl | simp); intro v1 w3 hr1; have HR1 := Lib.hid hr1; have HRR := Lib.hid (HRS.out.below hr1.bel); clear hr1)
  | (at_builtin; refine wpList_reasons rfl _ _ rfl rfl rfl HR1.out HRR.out (by have := HR0.out; omega) (by omega) ?_; intro v2 w4 hr2))
 go_ret
 obtain ⟨fA, fc, rfl⟩ := hr2.slice
 have hz : 0 + 1 + rn = 0 ↔ D = true := by rw [← HIF.out]; have := HR0.out; omega
 first
  | exact ⟨fA, _, fc, rfl, below_then HBX.out HBX.out.size hr2.bel, hz⟩
  | exact ⟨fA, _, ⟨fc, rfl⟩, below_then HBX.out HBX.out.size hr2.bel, hz⟩)))
set_option maxRecDepth 100000 in
theorem c39_ne146 (tb : TypeId) (va vb : Value) (it iv : Bool) (w : World) (hne : tb ≠ 146) : Calls Tryz.prog 39 #[.iface 146 va, .iface tb vb, .agg #[.bool it, .bool iv]] w fun e w' => ∃ A n c, e = .returned (.slice A n c) ∧ Below w.heap.size w w' ∧ n ≠ 0 := by
 have HN := Lib.hid hne
 clear hne
 go_enter Tryz.func39, Tryz.ntmps39
 go_wp2_with (go_at_call 58; refine (c58_ne146 tb _ _ _ HN.out).mono ?_; rintro e w1 ⟨rfl, hb1⟩)
 go_ret
 exact ⟨_, _, _, rfl, (below_then ((Below.refl _ _).alloc (Nat.le_refl _) _) (by simp) hb1).alloc (by have := hb1.size; rw [World.size_alloc] at this; omega) _, by decide⟩
set_option maxRecDepth 100000 in
set_option maxHeartbeats 2000000 in
theorem c39_150 (A1 A2 : Option Addr) (n1 n2 k1 k2 : Nat) (tp1 tp2 : Int) (it iv : Bool) (xs ys : List (Dot × Sl5)) (w : World) (h1 : Rd w w.heap.size 18 A1 n1 k1 (xs.map epF)) (h2 : Rd w w.heap.size 18 A2 n2 k2 (ys.map epF)) (hp1 : ∀ q ∈ xs, PtR w w.heap.size q.1 q.2) (hp2 : ∀ q ∈ ys, PtR w w.heap.size q.1 q.2) (hn1 : n1 ≤ 1000) (hn2 : n2 ≤ 1000) (hT : Lib.Utf8Tabs 3 4 w) (hT4 : 4 < w.heap.size) :
 Calls Tryz.prog 39 #[.iface 150 (.agg #[.slice A1 n1 k1, .int .u8 tp1]), .iface 150 (.agg #[.slice A2 n2 k2, .int .u8 tp2]), .agg #[.bool it, .bool iv]] w fun e w' => ∃ A n c, e = .returned (.slice A n c) ∧ Below w.heap.size w w' ∧ (n = 0 ↔ ((tp1 == tp2) && diffSame (epFEq it iv) xs ys) = true) := by
 have CF : Hid (∀ W, Below w.heap.size w W → Calls Tryz.prog 66 #[.agg #[.slice A1 n1 k1, .int .u8 tp1], .agg #[.slice A2 n2 k2, .int .u8 tp2], .agg #[.bool it, .bool iv]] W fun e w' => ∃ A n c, e = .returned (.slice A n c) ∧ Rs W w' (.slice A n c) n ∧ n ≤ 10 ∧ (n = 0 ↔ ((tp1 == tp2) && diffSame (epFEq it iv) xs ys) = true)) := Lib.hid fun W hW =>
  c66 A1 A2 n1 n2 k1 k2 tp1 tp2 it iv xs ys W ((h1.below hW).more hW.size) ((h2.below hW).more hW.size) (fun q hq => ((hp1 q hq).below hW).more hW.size) (fun q hq => ((hp2 q hq).below hW).more hW.size) hn1 hn2 (utf8_below hT hT4 hW) (Nat.lt_of_lt_of_le hT4 hW.size)
 generalize ((tp1 == tp2) && diffSame (epFEq it iv) xs ys) = D at CF ⊢
 obtain ⟨W0, hW0⟩ : ∃ W0, W0 = w.alloc (.cells #[.bool it, .bool iv] 101) := ⟨_, rfl⟩
 have hb : Below w.heap.size w W0 := ba hW0
 have g0 : W0.cell? ⟨w.heap.size, 0, none⟩ = some (.bool it) := by rw [hW0]; simp [go_sem]
 have g1 : W0.cell? ⟨w.heap.size, 1, none⟩ = some (.bool iv) := by rw [hW0]; simp [go_sem]
 have HB := Lib.hid hb
 have HW := Lib.hid hW0
 clear hW0 hb h1 h2 hp1 hp2 hT
 have n123 := fun (v : Value) (w : World) => asN123 150 v w (by decide)
 have n127 := fun (v : Value) (w : World) => asN127 150 v w (by decide)
 have n131 := fun (v : Value) (w : World) => asN131 150 v w (by decide)
 have n134 := fun (v : Value) (w : World) => asN134 150 v w (by decide)
 have n138 := fun (v : Value) (w : World) => asN138 150 v w (by decide)
 have n142 := fun (v : Value) (w : World) => asN142 150 v w (by decide)
 have n146 := fun (v : Value) (w : World) => asN146 150 v w (by decide)
 have y150 := fun (v : Value) (w : World) => asY150 v true w
 have z150 := fun (v : Value) (w : World) => asY150 v false w
 go_enter Tryz.func39, Tryz.ntmps39
 go_upto_region 1 with fail
 rw [← HW.out]
 clear HW
 go_upto_region 54 with (first
  | (go_at_call 58; refine (c58_eq150 _ #[.slice A2 n2 k2, .int .u8 tp2] _ rfl rfl).mono ?_; rintro e w1 ⟨rfl, hb1⟩; have g0 := cellk g0 hb1; have g1 := cellk g1 hb1)
  | ((with_reducible apply arm_store_new 2 infoA150); rfl; simp; rfl; rfl; rfl; rfl))
 obtain ⟨B7, hB7⟩ : ∃ B, B = w1.heap.size := ⟨_, rfl⟩
 obtain ⟨w2, hw2⟩ : ∃ w2, w2 = w1.alloc (.cells #[.slice A1 n1 k1, .int .u8 tp1] 150) := ⟨_, rfl⟩
 rw [← hw2, ← hB7]
 have hb2 : Below w1.heap.size w1 w2 := ba hw2
 have x0 : w2.cell? ⟨B7, 0, none⟩ = some (.slice A1 n1 k1) := by rw [hw2, hB7]; simp [go_sem]
 have x1 : w2.cell? ⟨B7, 1, none⟩ = some (.int .u8 tp1) := by rw [hw2, hB7]; simp [go_sem]
 replace g0 := cellk g0 hb2
 replace g1 := cellk g1 hb2
 have HBW := Lib.hid (below_then (below_then HB.out HB.out.size hb1) (Nat.le_trans HB.out.size hb1.size) hb2)
 clear hw2 hB7 hb1 hb2
 try simp only [Act.put]
 go_cut [22] from 169 to 173 (fun s8 wx => ∃ A n c W, s8 = .slice A n c ∧ Below w.heap.size w wx ∧ Rs W wx (.slice A n c) n ∧ n ≤ 10 ∧ (n = 0 ↔ D = true))
 case first => (
 as_aux_lemma => (
 first
  | (go_region_held3 (fun w' => w'.cell? ⟨B7, 0, none⟩ = some (.slice A1 n1 k1) ∧ w'.cell? ⟨B7, 1, none⟩ = some (.int .u8 tp1) ∧ w'.cell? ⟨w.heap.size, 0, none⟩ = some (.bool it) ∧ w'.cell? ⟨w.heap.size, 1, none⟩ = some (.bool iv)) (first | exact ⟨x0, x1, g0, g1⟩ | exact ⟨cellk (w := w2.drew) x0 hb5, cellk (w := w2.drew) x1 hb5, cellk (w := w2.drew) g0 hb5, cellk (w := w2.drew) g1 hb5⟩)
   (first | (go_at_call 66; (with_reducible refine (CF.out _ (below_drew HBW.out)).mono ?_); rintro e w5 ⟨rA, rn, rc, rfl, hrs, hr10, hiff⟩; have hb5 := hrs.bel)))
  | fail
 all_goals go_wp2_with fail
 all_goals go_meet
 all_goals exact ⟨rA, rn, rc, _, rfl, below_then (below_drew HBW.out) (below_drew HBW.out).size hb5, hrs, hr10, hiff⟩))
 case rest => (
 obtain ⟨rA, rn, rc, WR, rfl, hbx, hrs, hr10, hiff⟩ := hcut
 obtain ⟨wk, rfl⟩ : ∃ wk : World, wk = wc := ⟨_, rfl⟩
 have HBX := Lib.hid hbx
 have HRS := Lib.hid hrs
 have HIF := Lib.hid hiff
 have HR := Lib.hid (Rs.nil wk)
 clear hbx hrs hiff CF
 by_cases hr0 : rn = 0
 · (
 have q1 : ¬ (0 : Int) < (rn : Int) := by omega
 have HR0 := Lib.hid hr0
 clear hr0
 as_aux_lemma => (
 go_wp2_with fail
 go_ret
 have hz : (0 : Nat) = 0 ↔ D = true := by rw [← HIF.out]; simp [HR0.out]
 first
  | exact ⟨none, 0, 0, rfl, HBX.out, hz⟩
  | exact ⟨none, 0, ⟨0, rfl⟩, HBX.out, hz⟩))
 · (
 have q1 : (0 : Int) < (rn : Int) := by omega
 have HR0 := Lib.hid hr0
 clear hr0
 as_aux_lemma => (
 go_wp2_with (first
  | (at_builtin; refine wpList_reason_new HR.out (by decide) rfl _ _ rfl rfl rfl ?_ ?_; (first | rfl | simp); intro v1 w3 hr1; have HR1 := Lib.hid hr1; have HRR := Lib.hid (HRS.out.below hr1.bel); clear hr1)
  | (at_builtin; refine wpList_reasons rfl _ _ rfl rfl rfl HR1.out HRR.out (by have := HR0.out; omega) (by omega) ?_; intro v2 w4 hr2))
 go_ret
 obtain ⟨fA, fc, rfl⟩ := hr2.slice
 have hz : 0 + 1 + rn = 0 ↔ D = true := by rw [← HIF.out]; have := HR0.out; omega
 first
  | exact ⟨fA, _, fc, rfl, below_then HBX.out HBX.out.size hr2.bel, hz⟩
  | exact ⟨fA, _, ⟨fc, rfl⟩, below_then HBX.out HBX.out.size hr2.bel, hz⟩)))
set_option maxRecDepth 100000 in
theorem c39_ne150 (tb : TypeId) (va vb : Value) (it iv : Bool) (w : World) (hne : tb ≠ 150) : Calls Tryz.prog 39 #[.iface 150 va, .iface tb vb, .agg #[.bool it, .bool iv]] w fun e w' => ∃ A n c, e = .returned (.slice A n c) ∧ Below w.heap.size w w' ∧ n ≠ 0 := by
 have HN := Lib.hid hne
 clear hne
 go_enter Tryz.func39, Tryz.ntmps39
 go_wp2_with (go_at_call 58; refine (c58_ne150 tb _ _ _ HN.out).mono ?_; rintro e w1 ⟨rfl, hb1⟩)
 go_ret
 exact ⟨_, _, _, rfl, (below_then ((Below.refl _ _).alloc (Nat.le_refl _) _) (by simp) hb1).alloc (by have := hb1.size; rw [World.size_alloc] at this; omega) _, by decide⟩
end Go.Proofs.YtlpddogcnpokfaaGreatDoor
