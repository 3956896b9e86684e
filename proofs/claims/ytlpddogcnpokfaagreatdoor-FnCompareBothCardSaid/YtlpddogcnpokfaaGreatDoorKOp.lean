/- Contracts of functions of the program, for the comparison of aggregations (part KOp). -/
import Derived.Test.YtlpddogcnpokfaaGreatDoorKB2
import Derived.ProofKit
import Derived.LaidMore
import Derived.OpenShut
import Derived.Stop.Joined
import Derived.Deep.Slices
import Derived.Deep.Strs
import Derived.SizedLaws
set_option linter.all false
namespace Go.Proofs.YtlpddogcnpokfaaGreatDoor
open Go.RowKit
/-! ### The arguments opened -/
section
variable {H : Type} {enc : TypeId × Value → H} {w : World} {spare : Nat → Bool} {held : Bool}
open Go.Deep
theorem flat_len {α : Type} {sz : Nat} (f : α → List Value) (hf : ∀ z, (f z).length = sz) : ∀ l : List α, (l.map f).flatten.length = l.length * sz
 | [] => by simp
 | z :: l => by
  rw [List.map_cons, List.flatten_cons, List.length_append, hf, flat_len f hf l, List.length_cons, Nat.succ_mul]
  omega
def Light (t : TypeId) (d : DataW H) : Prop := ∀ n ∈ d.weights Tryz.prog t, n ≤ reachBytes
theorem weightsAll_mem {e : TypeId} : ∀ {l : List (DataW H)} {d : DataW H}, d ∈ l → ∀ n ∈ d.weights Tryz.prog e, n ∈ DataW.weightsAll Tryz.prog e l
 | d' :: l, d, h, n, hn => by
  unfold DataW.weightsAll
  rcases List.mem_cons.1 h with rfl | h
  · exact List.mem_append_left _ hn
  · exact List.mem_append_right _ (weightsAll_mem h n hn)
theorem light_slice {t e : TypeId} (ht : Tryz.prog.underlying t = some (.slice e)) (hb : 1 ≤ Tryz.prog.bytesOf e) {elems rest : List (DataW H)} (h : Light t (.slice elems rest)) : elems.length ≤ 140737488351232 ∧ ∀ d ∈ elems, Light e d := by
 unfold Light DataW.weights at h
 rw [ht] at h
 refine ⟨?_, fun d hd n hn => h n (List.mem_cons_of_mem _ (List.mem_append_left _ (weightsAll_mem hd n hn)))⟩
 have h1 := h _ (List.mem_cons_self ..)
 have h2 : elems.length * 1 ≤ (elems.length + rest.length) * Tryz.prog.bytesOf e := Nat.mul_le_mul (by omega) hb
 have h3 : reachBytes = 140737488351232 := by decide
 omega
theorem light_agg {t : TypeId} {fs : Array Field} (ht : Tryz.prog.underlying t = some (.struct fs)) {parts : List (DataW H)} (h : Light t (.agg parts)) {i : Nat} {f : Field} {d : DataW H} (hf : fs[i]? = some f) (hd : parts[i]? = some d) : Light f.type d := by
 unfold Light DataW.weights at h
 rw [ht] at h
 intro n hn
 refine h n (DataW.weights_mem_each (j := i) (t := f.type) (d := d) ?_ hd n hn)
 rw [List.getElem?_map, Array.getElem?_toList, hf]
 rfl
theorem light_string {t : TypeId} {s : ByteArray} (h : Light (H := H) t (.lit (.string s.data.toList))) : s.size ≤ 140737488351232 := by
 unfold Light DataW.weights at h
 have h1 := h _ (List.mem_cons_self ..)
 have h3 : reachBytes = 140737488351232 := by decide
 have h4 : s.data.toList.length = s.size := by simp
 omega
theorem open_rows {α : Type} {t e : TypeId} {sz fuel : Nat} {cs : List Value} {x : DataW H × List MemPlace} (ht : Tryz.prog.underlying t = some (.slice e)) (hc : Tryz.prog.cellsOf e = sz) (h0 : 0 < sz) (f : α → List Value) (hf : ∀ z, (f z).length = sz) (Good : α → Prop)
 (hel : ∀ n cs' y, DataW.trod enc Tryz.prog w 0 spare held n e cs' = some y → Light e y.1 → ∃ z : α, cs' = f z ∧ Good z) (hby : 1 ≤ Tryz.prog.bytesOf e) (h : DataW.trod enc Tryz.prog w 0 spare held fuel t cs = some x) (hL : Light t x.1) :
 ∃ (A : Option Addr) (n c : Nat) (l : List α), cs = [.slice A n c] ∧ Rd w w.heap.size sz A n c (l.map f) ∧ ∀ z ∈ l, Good z := by
 rcases DataW.trod_slice ht h with ⟨rfl, _⟩ | ⟨a, len, cap, elems, rest, n, _, rfl, rfl, _, hl, hm, hlen, hall, _, _⟩
 · exact ⟨none, 0, 0, [], rfl, rd_none _ _ _, by simp⟩
 obtain ⟨htop, hle⟩ := light_slice ht hby hL
 rw [List.length_map] at htop
 have hx : ∀ i, i < len → ∃ z : α, w.cells? 0 (a.add (i * sz)) sz = some (f z) ∧ Good z := fun i hi => by
  have hk := hall i hi
  rw [hc, List.getElem?_eq_getElem (by omega)] at hk
  obtain ⟨cs', h1, h2⟩ := Option.bind_eq_some_iff.1 hk
  obtain ⟨z, rfl, hg⟩ := hel n cs' _ h2 (hle _ (List.mem_map.2 ⟨_, List.getElem_mem (by omega), rfl⟩))
  exact ⟨z, h1, hg⟩
 have mk : ∀ k, k ≤ len → ∃ l : List α, l.length = k ∧ ∀ i (hi : i < l.length), w.cells? 0 (a.add (i * sz)) sz = some (f l[i]) ∧ Good l[i] := by
  intro k
  induction k with
  | zero => exact fun _ => ⟨[], rfl, by simp⟩
  | succ k ih =>
   intro hk
   obtain ⟨l, h1, h2⟩ := ih (by omega)
   obtain ⟨z, hz⟩ := hx k (by omega)
   refine ⟨l ++ [z], by simp [h1], fun i hi => ?_⟩
   by_cases hik : i < l.length
   · rw [List.getElem_append_left hik]; exact h2 i hik
   · (
   have hik' : i = l.length := by simp at hi; omega
   subst hik'
   simp only [List.getElem_append_right (Nat.le_refl _), Nat.sub_self, List.getElem_cons_zero]
   rw [h1]
   exact hz)
 obtain ⟨l, h1, h2⟩ := mk len (Nat.le_refl _)
 refine ⟨some a, len, cap, l, rfl, ⟨by simp [h1], hl, by omega, by unfold maxLen at hm; omega, fun r hr => by obtain ⟨z, _, rfl⟩ := List.mem_map.1 hr; exact hf z, fun hpos => ?_⟩, fun z hz => ?_⟩
 · (
 have c0 := (h2 0 (by omega)).1
 obtain ⟨_, _, hcell⟩ := World.cells?_some c0
 have e0 := hcell 0 h0
 rw [Nat.zero_mul] at e0
 have ea : (a.add 0).add 0 = a := rfl
 rw [ea, List.getElem?_eq_getElem (by rw [hf]; exact h0)] at e0
 have hsp := World.cell?_spot e0
 obtain ⟨b, o, sp⟩ := a
 simp only at hsp
 subst hsp
 have hlt : b < w.heap.size := by
  unfold World.cell? at e0
  cases hq : w.heap[b]? with
  | none => simp [hq] at e0
  | some ob => exact (Array.getElem?_eq_some_iff.1 hq).1
 refine ⟨b, o, rfl, hlt, fun j v hv => ?_⟩
 have hj : j < (l.map f).flatten.length := (List.getElem?_eq_some_iff.1 hv).1
 have hfl : (l.map f).flatten.length = l.length * sz := flat_len f hf l
 have hi : j / sz < l.length := (Nat.div_lt_iff_lt_mul h0).2 (by omega)
 have hr : j % sz < sz := Nat.mod_lt _ h0
 have hfa := flatten_at sz (l.map f) (j / sz) (j % sz) (f l[j / sz]) (fun r hr => by obtain ⟨z, _, rfl⟩ := List.mem_map.1 hr; exact hf z) (by rw [List.getElem?_map, List.getElem?_eq_getElem hi]; rfl) hr
 have hjj : j / sz * sz + j % sz = j := by rw [Nat.mul_comm]; exact Nat.div_add_mod j sz
 rw [hjj, hv] at hfa
 obtain ⟨_, _, hcell⟩ := World.cells?_some (h2 _ hi).1
 have e1 := hcell _ hr
 rw [← hfa] at e1
 have ea2 : ((⟨b, o, none⟩ : Addr).add (j / sz * sz)).add (j % sz) = ⟨b, o + j, none⟩ := by
  rw [Go.Deep.add_add, hjj]
  unfold Addr.add
  by_cases hj0 : j = 0
  · rw [if_pos hj0, hj0]; rfl
  · rw [if_neg hj0]
 rw [ea2] at e1
 exact e1)
 · obtain ⟨i, hi, rfl⟩ := List.getElem_of_mem hz
   exact (h2 i hi).2
theorem u64_wf {x : Int} (h : (Lit.int .u64 x).wf = true) : U64 x := by
 simp only [Lit.wf, Bool.and_eq_true, decide_eq_true_eq] at h
 have h1 : IntKind.u64.min = 0 := by kernel_rfl
 have h2 : IntKind.u64.max = 18446744073709551615 := by kernel_rfl
 unfold U64
 omega
theorem b37 : 1 ≤ Tryz.prog.bytesOf 37 := by rw [show Tryz.prog.bytesOf 37 = 8 by kernel_rfl]; decide
theorem b46 : 1 ≤ Tryz.prog.bytesOf 46 := by rw [show Tryz.prog.bytesOf 46 = 32 by kernel_rfl]; decide
theorem b42 : 1 ≤ Tryz.prog.bytesOf 42 := by rw [show Tryz.prog.bytesOf 42 = 216 by kernel_rfl]; decide
theorem c38_1 : Tryz.prog.cellsOf 37 = 1 := by kernel_rfl
theorem c46_2 : Tryz.prog.cellsOf 46 = 2 := by kernel_rfl
theorem c42_18 : Tryz.prog.cellsOf 42 = 18 := by kernel_rfl
theorem c40_16 : Tryz.prog.cellsOf 40 = 16 := by kernel_rfl
theorem c24_5 : Tryz.prog.cellsOf 24 = 5 := by kernel_rfl
theorem one_of (t : TypeId) (h : t ∈ [2, 4, 5, 9, 21, 22, 36, 37, 38]) : Tryz.prog.cellsOf t = 1 := by
 simp only [List.mem_cons, List.not_mem_nil, or_false] at h
 rcases h with rfl | rfl | rfl | rfl | rfl | rfl | rfl | rfl | rfl <;> kernel_rfl
theorem open_u64s {fuel : Nat} {cs : List Value} {x : DataW H × List MemPlace} (h : DataW.trod enc Tryz.prog w 0 spare held fuel 38 cs = some x) (hL : Light 38 x.1) :
 ∃ (A : Option Addr) (n c : Nat) (l : List Int), cs = [.slice A n c] ∧ Rd w w.heap.size 1 A n c (l.map encU) ∧ ∀ z ∈ l, U64 z :=
 open_rows Tryz.underlying38 c38_1 (by decide) encU (fun _ => rfl) U64 (fun n cs' y hy _ => by
  obtain ⟨k, rfl, _, hw⟩ := DataW.trod_int Tryz.underlying37 hy
  exact ⟨k, rfl, u64_wf hw⟩) b37 h hL
def KvGood (x : KV) : Prop := x.Ok ∧ x.ty = 4 ∧ x.num = 0
set_option maxRecDepth 100000 in
theorem open_attrs {fuel : Nat} {cs : List Value} {x : DataW H × List MemPlace} (h : DataW.trod enc Tryz.prog w 0 spare held fuel 36 cs = some x) (hL : Light 36 x.1) :
 ∃ (A : Option Addr) (n c : Nat) (l : List KV), cs = [.slice A n c] ∧ Rd w w.heap.size 2 A n c (l.map enc2) ∧ ∀ z ∈ l, KvGood z :=
 open_rows Tryz.underlying36 c46_2 (by decide) enc2 (fun _ => rfl) KvGood (fun n cs' y hy hLy => by
  obtain ⟨y0, y1, m, rfl, hl, h0, h1⟩ := Go.ChangeShapes.trod_struct2 Tryz.underlying46 hy
  rw [c46_2] at hl
  match cs', hl with
  | [v0, v1], _ =>
   have e9 : Tryz.prog.cellsOf 9 = 1 := one_of 9 (by simp)
   simp only [e9, List.drop_zero, List.drop_succ_cons, List.take_succ_cons, List.take_zero] at h0 h1
   obtain ⟨s0, e0, x0, _⟩ := DataW.trod_string Tryz.underlying9 h0
   obtain ⟨s1, e1, x1, _⟩ := DataW.trod_string Tryz.underlying9 h1
   have k0 := light_agg Tryz.underlying46 hLy (i := 0) rfl rfl
   have k1 := light_agg Tryz.underlying46 hLy (i := 1) rfl rfl
   rw [x0] at k0
   rw [x1] at k1
   injection e0 with e0
   injection e1 with e1
   subst e0 e1
   exact ⟨strKV s0 s1, rfl, ⟨light_string k0, light_string k1⟩, rfl, rfl⟩) b46 h hL
set_option maxRecDepth 100000 in
theorem open_point {fuel : Nat} {cs : List Value} {x : DataW H × List MemPlace} (h : DataW.trod enc Tryz.prog w 0 spare held fuel 40 cs = some x) (hL : Light 40 x.1) :
 ∃ (d : Dot) (s : Sl5), cs = ptCells d s ∧ DotR w w.heap.size d s := by
 obtain ⟨xs, n, _, rfl, hl, hlen, hf⟩ := DataW.trod_struct Tryz.underlying40 h
 rw [c40_16] at hl
 match cs, hl with
 | [v0, v1, v2, v3, v4, v5, v6, v7, v8, v9, v10, v11, v12, v13, v14, v15], _ =>
  have get : ∀ (i : Nat) (f : Field), i < 16 → (#[] : Array Field).size = 0 → ∀ (hfi : (#[{ name := "Attrs", type := 36, offset := 0, embedded := false, tag := "", pkgPath := "", byteOffset := 0 },
   { name := "Value", type := 37, offset := 1, embedded := false, tag := "", pkgPath := "", byteOffset := 24 },
   { name := "Count", type := 37, offset := 2, embedded := false, tag := "", pkgPath := "", byteOffset := 32 },
   { name := "Sum", type := 37, offset := 3, embedded := false, tag := "", pkgPath := "", byteOffset := 40 },
   { name := "HasMin", type := 4, offset := 4, embedded := false, tag := "", pkgPath := "", byteOffset := 48 },
   { name := "HasMax", type := 4, offset := 5, embedded := false, tag := "", pkgPath := "", byteOffset := 49 },
   { name := "Min", type := 37, offset := 6, embedded := false, tag := "", pkgPath := "", byteOffset := 56 },
   { name := "Max", type := 37, offset := 7, embedded := false, tag := "", pkgPath := "", byteOffset := 64 },
   { name := "Bounds", type := 38, offset := 8, embedded := false, tag := "", pkgPath := "", byteOffset := 72 },
   { name := "Buckets", type := 38, offset := 9, embedded := false, tag := "", pkgPath := "", byteOffset := 96 },
   { name := "Scale", type := 21, offset := 10, embedded := false, tag := "", pkgPath := "", byteOffset := 120 },
   { name := "Zero", type := 37, offset := 11, embedded := false, tag := "", pkgPath := "", byteOffset := 128 },
   { name := "PosOffset", type := 21, offset := 12, embedded := false, tag := "", pkgPath := "", byteOffset := 136 },
   { name := "Pos", type := 38, offset := 13, embedded := false, tag := "", pkgPath := "", byteOffset := 144 },
   { name := "NegOffset", type := 21, offset := 14, embedded := false, tag := "", pkgPath := "", byteOffset := 168 },
   { name := "Neg", type := 38, offset := 15, embedded := false, tag := "", pkgPath := "", byteOffset := 176 }] : Array Field)[i]? = some f), ∃ y, DataW.trod enc Tryz.prog w 0 spare held n f.type (([v0, v1, v2, v3, v4, v5, v6, v7, v8, v9, v10, v11, v12, v13, v14, v15].drop f.offset).take (Tryz.prog.cellsOf f.type)) = some y ∧ Light f.type y.1 := fun i f hi _ hfi => by
   have := hf i f hfi
   have hi' : i < xs.length := by rw [hlen]; exact hi
   rw [List.getElem?_eq_getElem hi'] at this
   exact ⟨_, this, light_agg Tryz.underlying40 hL hfi (by rw [List.getElem?_map, List.getElem?_eq_getElem hi']; rfl)⟩
  have e36 : Tryz.prog.cellsOf 36 = 1 := one_of 36 (by simp)
  have e37 : Tryz.prog.cellsOf 37 = 1 := one_of 37 (by simp)
  have e38 : Tryz.prog.cellsOf 38 = 1 := one_of 38 (by simp)
  have e21 : Tryz.prog.cellsOf 21 = 1 := one_of 21 (by simp)
  have e4 : Tryz.prog.cellsOf 4 = 1 := one_of 4 (by simp)
  obtain ⟨y0, hy0, hL0⟩ : ∃ y, DataW.trod enc Tryz.prog w 0 spare held n 36 [v0] = some y ∧ Light 36 y.1 := by
   obtain ⟨y, hy, hl⟩ := get 0 _ (by decide) rfl rfl
   refine ⟨y, ?_, hl⟩
   have h2 : DataW.trod enc Tryz.prog w 0 spare held n 36 (([v0, v1, v2, v3, v4, v5, v6, v7, v8, v9, v10, v11, v12, v13, v14, v15].drop 0).take (Tryz.prog.cellsOf 36)) = some y := hy
   rw [e36] at h2
   exact h2
  obtain ⟨y1, hy1, hL1⟩ : ∃ y, DataW.trod enc Tryz.prog w 0 spare held n 37 [v1] = some y ∧ Light 37 y.1 := by
   obtain ⟨y, hy, hl⟩ := get 1 _ (by decide) rfl rfl
   refine ⟨y, ?_, hl⟩
   have h2 : DataW.trod enc Tryz.prog w 0 spare held n 37 (([v0, v1, v2, v3, v4, v5, v6, v7, v8, v9, v10, v11, v12, v13, v14, v15].drop 1).take (Tryz.prog.cellsOf 37)) = some y := hy
   rw [e37] at h2
   exact h2
  obtain ⟨y2, hy2, hL2⟩ : ∃ y, DataW.trod enc Tryz.prog w 0 spare held n 37 [v2] = some y ∧ Light 37 y.1 := by
   obtain ⟨y, hy, hl⟩ := get 2 _ (by decide) rfl rfl
   refine ⟨y, ?_, hl⟩
   have h2 : DataW.trod enc Tryz.prog w 0 spare held n 37 (([v0, v1, v2, v3, v4, v5, v6, v7, v8, v9, v10, v11, v12, v13, v14, v15].drop 2).take (Tryz.prog.cellsOf 37)) = some y := hy
   rw [e37] at h2
   exact h2
  obtain ⟨y3, hy3, hL3⟩ : ∃ y, DataW.trod enc Tryz.prog w 0 spare held n 37 [v3] = some y ∧ Light 37 y.1 := by
   obtain ⟨y, hy, hl⟩ := get 3 _ (by decide) rfl rfl
   refine ⟨y, ?_, hl⟩
   have h2 : DataW.trod enc Tryz.prog w 0 spare held n 37 (([v0, v1, v2, v3, v4, v5, v6, v7, v8, v9, v10, v11, v12, v13, v14, v15].drop 3).take (Tryz.prog.cellsOf 37)) = some y := hy
   rw [e37] at h2
   exact h2
  obtain ⟨y4, hy4, hL4⟩ : ∃ y, DataW.trod enc Tryz.prog w 0 spare held n 4 [v4] = some y ∧ Light 4 y.1 := by
   obtain ⟨y, hy, hl⟩ := get 4 _ (by decide) rfl rfl
   refine ⟨y, ?_, hl⟩
   have h2 : DataW.trod enc Tryz.prog w 0 spare held n 4 (([v0, v1, v2, v3, v4, v5, v6, v7, v8, v9, v10, v11, v12, v13, v14, v15].drop 4).take (Tryz.prog.cellsOf 4)) = some y := hy
   rw [e4] at h2
   exact h2
  obtain ⟨y5, hy5, hL5⟩ : ∃ y, DataW.trod enc Tryz.prog w 0 spare held n 4 [v5] = some y ∧ Light 4 y.1 := by
   obtain ⟨y, hy, hl⟩ := get 5 _ (by decide) rfl rfl
   refine ⟨y, ?_, hl⟩
   have h2 : DataW.trod enc Tryz.prog w 0 spare held n 4 (([v0, v1, v2, v3, v4, v5, v6, v7, v8, v9, v10, v11, v12, v13, v14, v15].drop 5).take (Tryz.prog.cellsOf 4)) = some y := hy
   rw [e4] at h2
   exact h2
  obtain ⟨y6, hy6, hL6⟩ : ∃ y, DataW.trod enc Tryz.prog w 0 spare held n 37 [v6] = some y ∧ Light 37 y.1 := by
   obtain ⟨y, hy, hl⟩ := get 6 _ (by decide) rfl rfl
   refine ⟨y, ?_, hl⟩
   have h2 : DataW.trod enc Tryz.prog w 0 spare held n 37 (([v0, v1, v2, v3, v4, v5, v6, v7, v8, v9, v10, v11, v12, v13, v14, v15].drop 6).take (Tryz.prog.cellsOf 37)) = some y := hy
   rw [e37] at h2
   exact h2
  obtain ⟨y7, hy7, hL7⟩ : ∃ y, DataW.trod enc Tryz.prog w 0 spare held n 37 [v7] = some y ∧ Light 37 y.1 := by
   obtain ⟨y, hy, hl⟩ := get 7 _ (by decide) rfl rfl
   refine ⟨y, ?_, hl⟩
   have h2 : DataW.trod enc Tryz.prog w 0 spare held n 37 (([v0, v1, v2, v3, v4, v5, v6, v7, v8, v9, v10, v11, v12, v13, v14, v15].drop 7).take (Tryz.prog.cellsOf 37)) = some y := hy
   rw [e37] at h2
   exact h2
  obtain ⟨y8, hy8, hL8⟩ : ∃ y, DataW.trod enc Tryz.prog w 0 spare held n 38 [v8] = some y ∧ Light 38 y.1 := by
   obtain ⟨y, hy, hl⟩ := get 8 _ (by decide) rfl rfl
   refine ⟨y, ?_, hl⟩
   have h2 : DataW.trod enc Tryz.prog w 0 spare held n 38 (([v0, v1, v2, v3, v4, v5, v6, v7, v8, v9, v10, v11, v12, v13, v14, v15].drop 8).take (Tryz.prog.cellsOf 38)) = some y := hy
   rw [e38] at h2
   exact h2
  obtain ⟨y9, hy9, hL9⟩ : ∃ y, DataW.trod enc Tryz.prog w 0 spare held n 38 [v9] = some y ∧ Light 38 y.1 := by
   obtain ⟨y, hy, hl⟩ := get 9 _ (by decide) rfl rfl
   refine ⟨y, ?_, hl⟩
   have h2 : DataW.trod enc Tryz.prog w 0 spare held n 38 (([v0, v1, v2, v3, v4, v5, v6, v7, v8, v9, v10, v11, v12, v13, v14, v15].drop 9).take (Tryz.prog.cellsOf 38)) = some y := hy
   rw [e38] at h2
   exact h2
  obtain ⟨y10, hy10, hL10⟩ : ∃ y, DataW.trod enc Tryz.prog w 0 spare held n 21 [v10] = some y ∧ Light 21 y.1 := by
   obtain ⟨y, hy, hl⟩ := get 10 _ (by decide) rfl rfl
   refine ⟨y, ?_, hl⟩
   have h2 : DataW.trod enc Tryz.prog w 0 spare held n 21 (([v0, v1, v2, v3, v4, v5, v6, v7, v8, v9, v10, v11, v12, v13, v14, v15].drop 10).take (Tryz.prog.cellsOf 21)) = some y := hy
   rw [e21] at h2
   exact h2
  obtain ⟨y11, hy11, hL11⟩ : ∃ y, DataW.trod enc Tryz.prog w 0 spare held n 37 [v11] = some y ∧ Light 37 y.1 := by
   obtain ⟨y, hy, hl⟩ := get 11 _ (by decide) rfl rfl
   refine ⟨y, ?_, hl⟩
   have h2 : DataW.trod enc Tryz.prog w 0 spare held n 37 (([v0, v1, v2, v3, v4, v5, v6, v7, v8, v9, v10, v11, v12, v13, v14, v15].drop 11).take (Tryz.prog.cellsOf 37)) = some y := hy
   rw [e37] at h2
   exact h2
  obtain ⟨y12, hy12, hL12⟩ : ∃ y, DataW.trod enc Tryz.prog w 0 spare held n 21 [v12] = some y ∧ Light 21 y.1 := by
   obtain ⟨y, hy, hl⟩ := get 12 _ (by decide) rfl rfl
   refine ⟨y, ?_, hl⟩
   have h2 : DataW.trod enc Tryz.prog w 0 spare held n 21 (([v0, v1, v2, v3, v4, v5, v6, v7, v8, v9, v10, v11, v12, v13, v14, v15].drop 12).take (Tryz.prog.cellsOf 21)) = some y := hy
   rw [e21] at h2
   exact h2
  obtain ⟨y13, hy13, hL13⟩ : ∃ y, DataW.trod enc Tryz.prog w 0 spare held n 38 [v13] = some y ∧ Light 38 y.1 := by
   obtain ⟨y, hy, hl⟩ := get 13 _ (by decide) rfl rfl
   refine ⟨y, ?_, hl⟩
   have h2 : DataW.trod enc Tryz.prog w 0 spare held n 38 (([v0, v1, v2, v3, v4, v5, v6, v7, v8, v9, v10, v11, v12, v13, v14, v15].drop 13).take (Tryz.prog.cellsOf 38)) = some y := hy
   rw [e38] at h2
   exact h2
  obtain ⟨y14, hy14, hL14⟩ : ∃ y, DataW.trod enc Tryz.prog w 0 spare held n 21 [v14] = some y ∧ Light 21 y.1 := by
   obtain ⟨y, hy, hl⟩ := get 14 _ (by decide) rfl rfl
   refine ⟨y, ?_, hl⟩
   have h2 : DataW.trod enc Tryz.prog w 0 spare held n 21 (([v0, v1, v2, v3, v4, v5, v6, v7, v8, v9, v10, v11, v12, v13, v14, v15].drop 14).take (Tryz.prog.cellsOf 21)) = some y := hy
   rw [e21] at h2
   exact h2
  obtain ⟨y15, hy15, hL15⟩ : ∃ y, DataW.trod enc Tryz.prog w 0 spare held n 38 [v15] = some y ∧ Light 38 y.1 := by
   obtain ⟨y, hy, hl⟩ := get 15 _ (by decide) rfl rfl
   refine ⟨y, ?_, hl⟩
   have h2 : DataW.trod enc Tryz.prog w 0 spare held n 38 (([v0, v1, v2, v3, v4, v5, v6, v7, v8, v9, v10, v11, v12, v13, v14, v15].drop 15).take (Tryz.prog.cellsOf 38)) = some y := hy
   rw [e38] at h2
   exact h2
  obtain ⟨A0, n0, c0, la, q0, r0, g0⟩ := open_attrs hy0 hL0
  injection q0 with q0
  subst q0
  obtain ⟨i1, q1, _, w1⟩ := DataW.trod_int Tryz.underlying37 hy1
  injection q1 with q1
  subst q1
  replace w1 := u64_wf w1
  obtain ⟨i2, q2, _, w2⟩ := DataW.trod_int Tryz.underlying37 hy2
  injection q2 with q2
  subst q2
  replace w2 := u64_wf w2
  obtain ⟨i3, q3, _, w3⟩ := DataW.trod_int Tryz.underlying37 hy3
  injection q3 with q3
  subst q3
  replace w3 := u64_wf w3
  obtain ⟨b4, q4, _⟩ := DataW.trod_bool Tryz.underlying4 hy4
  injection q4 with q4
  subst q4
  obtain ⟨b5, q5, _⟩ := DataW.trod_bool Tryz.underlying4 hy5
  injection q5 with q5
  subst q5
  obtain ⟨i6, q6, _, w6⟩ := DataW.trod_int Tryz.underlying37 hy6
  injection q6 with q6
  subst q6
  replace w6 := u64_wf w6
  obtain ⟨i7, q7, _, w7⟩ := DataW.trod_int Tryz.underlying37 hy7
  injection q7 with q7
  subst q7
  replace w7 := u64_wf w7
  obtain ⟨A8, n8, c8, l8, q8, r8, g8⟩ := open_u64s hy8 hL8
  injection q8 with q8
  subst q8
  obtain ⟨A9, n9, c9, l9, q9, r9, g9⟩ := open_u64s hy9 hL9
  injection q9 with q9
  subst q9
  obtain ⟨i10, q10, _, w10⟩ := DataW.trod_int Tryz.underlying21 hy10
  injection q10 with q10
  subst q10
  obtain ⟨i11, q11, _, w11⟩ := DataW.trod_int Tryz.underlying37 hy11
  injection q11 with q11
  subst q11
  replace w11 := u64_wf w11
  obtain ⟨i12, q12, _, w12⟩ := DataW.trod_int Tryz.underlying21 hy12
  injection q12 with q12
  subst q12
  obtain ⟨A13, n13, c13, l13, q13, r13, g13⟩ := open_u64s hy13 hL13
  injection q13 with q13
  subst q13
  obtain ⟨i14, q14, _, w14⟩ := DataW.trod_int Tryz.underlying21 hy14
  injection q14 with q14
  subst q14
  obtain ⟨A15, n15, c15, l15, q15, r15, g15⟩ := open_u64s hy15 hL15
  injection q15 with q15
  subst q15
  exact ⟨⟨la, i1, i2, i3, b4, b5, i6, i7, l8, l9, i10, i11, i12, l13, i14, l15, 0, 0⟩, ⟨⟨A0, n0, c0⟩, ⟨A8, n8, c8⟩, ⟨A9, n9, c9⟩, ⟨A13, n13, c13⟩, ⟨A15, n15, c15⟩⟩, rfl, r0, r8, r9, r13, r15, ⟨g0, w1, w3, w6, w7, g8⟩⟩
set_option maxRecDepth 100000 in
theorem open_dot {fuel : Nat} {cs : List Value} {x : DataW H × List MemPlace} (h : DataW.trod enc Tryz.prog w 0 spare held fuel 42 cs = some x) (hL : Light 42 x.1) :
 ∃ z : Dot × Sl5, cs = dotCells z.1 z.2 ∧ DotR w w.heap.size z.1 z.2 := by
 obtain ⟨y0, y1, y2, n, rfl, hl, h0, h1, h2⟩ := Go.Deep.trod_struct3 Tryz.underlying42 h
 rw [c42_18] at hl
 match cs, hl with
 | [v0, v1, v2, v3, v4, v5, v6, v7, v8, v9, v10, v11, v12, v13, v14, v15, v16, v17], _ =>
  have e2 : Tryz.prog.cellsOf 2 = 1 := one_of 2 (by simp)
  simp only [c40_16, e2, List.drop_zero, List.drop_succ_cons, List.take_succ_cons, List.take_zero] at h0 h1 h2
  obtain ⟨d, s, hd, hr⟩ := open_point h0 (light_agg Tryz.underlying42 hL (i := 0) rfl rfl)
  obtain ⟨i1, q1, _, _⟩ := DataW.trod_int Tryz.underlying2 h1
  obtain ⟨i2, q2, _, _⟩ := DataW.trod_int Tryz.underlying2 h2
  injection q1 with q1
  injection q2 with q2
  subst q1 q2
  refine ⟨({ d with start := i1, time := i2 }, s), ?_, ⟨hr.a, hr.b, hr.k, hr.p, hr.n, ⟨hr.ok.attrs, hr.ok.value, hr.ok.sum, hr.ok.min, hr.ok.max, hr.ok.bounds⟩⟩⟩
  unfold ptCells at hd
  simp only [List.cons.injEq, and_true] at hd
  obtain ⟨rfl, rfl, rfl, rfl, rfl, rfl, rfl, rfl, rfl, rfl, rfl, rfl, rfl, rfl, rfl, rfl⟩ := hd
  rfl
set_option maxRecDepth 100000 in
theorem open_data {fuel : Nat} {cs : List Value} {x : DataW H × List MemPlace} (h : DataW.trod enc Tryz.prog w 0 spare held fuel 24 cs = some x) (hL : Light 24 x.1) :
 ∃ (a : Data) (A : Option Addr) (n c : Nat), cs = [.int .u8 a.kind, .bool a.float, .bool a.delta, .bool a.mono, .slice A n c] ∧ DotsR w w.heap.size A n c a.dots := by
 obtain ⟨xs, n, _, rfl, hl, hlen, hf⟩ := DataW.trod_struct Tryz.underlying24 h
 rw [c24_5] at hl
 match cs, hl, xs, hlen with
 | [v0, v1, v2, v3, v4], _, [x0, x1, x2, x3, x4], _ =>
  have e5 : Tryz.prog.cellsOf 5 = 1 := one_of 5 (by simp)
  have e4 : Tryz.prog.cellsOf 4 = 1 := one_of 4 (by simp)
  have e22 : Tryz.prog.cellsOf 22 = 1 := one_of 22 (by simp)
  have h0 := hf 0 _ rfl
  have h1 := hf 1 _ rfl
  have h2 := hf 2 _ rfl
  have h3 := hf 3 _ rfl
  have h4 := hf 4 _ rfl
  simp only [e5, e4, e22, List.drop_zero, List.drop_succ_cons, List.take_succ_cons, List.take_zero, List.getElem?_cons_zero, List.getElem?_cons_succ] at h0 h1 h2 h3 h4
  obtain ⟨i0, q0, _, _⟩ := DataW.trod_int Tryz.underlying5 h0
  obtain ⟨b1, q1, _⟩ := DataW.trod_bool Tryz.underlying4 h1
  obtain ⟨b2, q2, _⟩ := DataW.trod_bool Tryz.underlying4 h2
  obtain ⟨b3, q3, _⟩ := DataW.trod_bool Tryz.underlying4 h3
  obtain ⟨A, m, c, l, q4, hr, hg⟩ := open_rows (α := Dot × Sl5) Tryz.underlying22 c42_18 (by decide) (fun z => dotCells z.1 z.2) (fun _ => rfl) (fun z => DotR w w.heap.size z.1 z.2) (fun _ _ _ hy hLy => open_dot hy hLy) b42 h4 (light_agg Tryz.underlying24 hL (i := 4) rfl rfl)
  injection q0 with q0
  injection q1 with q1
  injection q2 with q2
  injection q3 with q3
  injection q4 with q4
  subst q0 q1 q2 q3 q4
  exact ⟨⟨i0, b1, b2, b3, l⟩, A, m, c, rfl, ⟨hr, hg⟩⟩
end
end Go.Proofs.YtlpddogcnpokfaaGreatDoor
