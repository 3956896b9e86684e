/- Contracts of functions of the program, for the comparison of aggregations (part KB2). -/
import Derived.Test.YtlpddogcnpokfaaGreatDoorKCm
import Derived.Test.YtlpddogcnpokfaaGreatDoorKA9
import Derived.Test.YtlpddogcnpokfaaGreatDoorKB1
import Derived.Test.YtlpddogcnpokfaaGreatDoorKRight
set_option linter.all false
namespace Go.Proofs.YtlpddogcnpokfaaGreatDoor
open Go.RowKit
section
/-! ### compareAwake -/
def awD (v : Int) : Dot := ⟨[], v, 0, 0, false, false, 0, 0, [], [], 0, 0, 0, [], 0, [], 0, 5⟩
theorem built61v (v : Int) : Tryz.prog.built 61 [(1, .int .u64 v)] = some #[.slice none 0 0, .int .u64 v, .int .u64 0, .int .u64 0, .bool false, .bool false, .int .u64 0, .int .u64 0, .slice none 0 0, .slice none 0 0, .int .i32 0, .int .u64 0, .int .i32 0, .slice none 0 0, .int .i32 0, .slice none 0 0] := by kernel_rfl
theorem built63v (v t : Int) : Tryz.prog.built 63 [(0, .agg #[.slice none 0 0, .int .u64 v, .int .u64 0, .int .u64 0, .bool false, .bool false, .int .u64 0, .int .u64 0, .slice none 0 0, .slice none 0 0, .int .i32 0, .int .u64 0, .int .i32 0, .slice none 0 0, .int .i32 0, .slice none 0 0]), (2, .int .i64 t)] = some #[.slice none 0 0, .int .u64 v, .int .u64 0, .int .u64 0, .bool false, .bool false, .int .u64 0, .int .u64 0, .slice none 0 0, .slice none 0 0, .int .i32 0, .int .u64 0, .int .i32 0, .slice none 0 0, .int .i32 0, .slice none 0 0, .int .i64 0, .int .i64 t] := by kernel_rfl
theorem built30v (k : Int) (A : Option Addr) (n c : Nat) : Tryz.prog.built 30 [(0, .int .u8 k), (4, .slice A n c)] = some #[.int .u8 k, .bool false, .bool false, .bool false, .slice A n c] := by kernel_rfl
def awC (v : Int) : Array Value := #[.slice none 0 0, .int .u64 v, .int .u64 0, .int .u64 0, .bool false, .bool false, .int .u64 0, .int .u64 0, .slice none 0 0, .slice none 0 0, .int .i32 0, .int .u64 0, .int .i32 0, .slice none 0 0, .int .i32 0, .slice none 0 0, .int .i64 0, .int .i64 5]
theorem awC_eq (v : Int) : (dotCells (awD v) sl0).toArray = awC v := rfl
theorem aw_ok (v : Int) (hv : U64 v) : (awD v).Ok := ⟨by simp [awD], hv, by simp [awD, U64], by simp [awD, U64], by simp [awD, U64], by simp [awD]⟩
theorem aw_attrs (v : Int) : AttrsOk (awD v).attrs := ⟨by simp [awD], by simp [awD], List.Pairwise.nil, by simp [awD]⟩
theorem aw_dotR (v : Int) (hv : U64 v) (w : World) : DotR w w.heap.size (awD v) sl0 := ⟨rd_none _ _ _, rd_none _ _ _, rd_none _ _ _, rd_none _ _ _, rd_none _ _ _, aw_ok v hv⟩
theorem aw_dotsR (v : Int) (hv : U64 v) {w : World} {b : Nat} {e : TypeId} (h : w.heap[b]? = some (.cells (awC v) e (0, 0))) : DotsR w w.heap.size (some ⟨b, 0, none⟩) 1 1 [(awD v, sl0)] := by
 have hlt := (Array.getElem?_eq_some_iff.1 h).1
 refine ⟨⟨rfl, Nat.le_refl _, by decide, by decide, ?_, fun _ => ⟨b, 0, rfl, hlt, ?_⟩⟩, fun x hx => ?_⟩
 · (
 intro r hr
 simp only [List.map_cons, List.map_nil, List.mem_singleton] at hr
 subst hr
 rfl)
 · (
 intro j u hu
 rw [Nat.zero_add]
 refine blk_cell h j u ?_
 rw [← awC_eq]
 simpa using hu)
 · (
 simp only [List.mem_singleton] at hx
 subst hx
 exact aw_dotR v hv w)
set_option maxRecDepth 100000 in
set_option maxHeartbeats 2000000 in
theorem c9 (w : World) (hT : Lib.Utf8Tabs 3 4 w) (hT4 : 4 < w.heap.size) : Calls Tryz.prog 9 #[] w fun e w' => e = .returned (.bool true) ∧ Below w.heap.size w w' := by
 obtain ⟨cA, hcA⟩ : ∃ cA, cA = awC 1 := ⟨_, rfl⟩
 obtain ⟨cB, hcB⟩ : ∃ cB, cB = awC 2 := ⟨_, rfl⟩
 have sA : (awC 1).size = 18 := rfl
 have sB : (awC 2).size = 18 := rfl
 obtain ⟨g1, hg1⟩ : ∃ g, g = w.heap.size := ⟨_, rfl⟩
 obtain ⟨W1, hW1⟩ : ∃ W1, W1 = w.alloc (.cells (awC 1) 63) := ⟨_, rfl⟩
 obtain ⟨x1, hx1⟩ : ∃ g, g = W1.heap.size := ⟨_, rfl⟩
 obtain ⟨W2, hW2⟩ : ∃ W2, W2 = W1.alloc (.cells #[.int .u8 0, .bool false, .bool false, .bool false, .slice (some ⟨g1, 0, none⟩) 1 1] 30) := ⟨_, rfl⟩
 obtain ⟨g2, hg2⟩ : ∃ g, g = W2.heap.size := ⟨_, rfl⟩
 obtain ⟨W3, hW3⟩ : ∃ W3, W3 = W2.alloc (.cells (awC 2) 63) := ⟨_, rfl⟩
 obtain ⟨x2, hx2⟩ : ∃ g, g = W3.heap.size := ⟨_, rfl⟩
 obtain ⟨W4, hW4⟩ : ∃ W4, W4 = W3.alloc (.cells #[.int .u8 0, .bool false, .bool false, .bool false, .slice (some ⟨g2, 0, none⟩) 1 1] 30) := ⟨_, rfl⟩
 have b1 : Below w.heap.size w W1 := bq hW1
 have b2 : Below W1.heap.size W1 W2 := bq hW2
 have b3 : Below W2.heap.size W2 W3 := bq hW3
 have b4 : Below W3.heap.size W3 W4 := bq hW4
 have l1 : W1.heap.size = w.heap.size + 1 := by rw [hW1]; simp
 have l2 : W2.heap.size = W1.heap.size + 1 := by rw [hW2]; simp
 have l3 : W3.heap.size = W2.heap.size + 1 := by rw [hW3]; simp
 have l4 : W4.heap.size = W3.heap.size + 1 := by rw [hW4]; simp
 have zA1 : W1.heap[g1]? = some (.cells (awC 1) 63 (0, 0)) := by rw [hg1, hW1]; exact heap_alloc_new w _
 have zA2 : W2.heap[x1]? = some (.cells #[.int .u8 0, .bool false, .bool false, .bool false, .slice (some ⟨g1, 0, none⟩) 1 1] 30 (0, 0)) := by rw [hx1, hW2]; exact heap_alloc_new W1 _
 have zB1 : W3.heap[g2]? = some (.cells (awC 2) 63 (0, 0)) := by rw [hg2, hW3]; exact heap_alloc_new W2 _
 have zB2 : W4.heap[x2]? = some (.cells #[.int .u8 0, .bool false, .bool false, .bool false, .slice (some ⟨g2, 0, none⟩) 1 1] 30 (0, 0)) := by rw [hx2, hW4]; exact heap_alloc_new W3 _
 have yA1 : W4.heap[g1]? = some (.cells (awC 1) 63 (0, 0)) := (b4.block _ (by omega)).trans ((b3.block _ (by omega)).trans ((b2.block _ (by omega)).trans zA1))
 have yA2 : W4.heap[x1]? = some (.cells #[.int .u8 0, .bool false, .bool false, .bool false, .slice (some ⟨g1, 0, none⟩) 1 1] 30 (0, 0)) := (b4.block _ (by omega)).trans ((b3.block _ (by omega)).trans zA2)
 have yB1 : W4.heap[g2]? = some (.cells (awC 2) 63 (0, 0)) := (b4.block _ (by omega)).trans zB1
 have HBW := Lib.hid (below_then (below_then (below_then b1 b1.size b2) (by omega) b3) (by omega) b4)
 have dA := aw_dotsR 1 (by simp [U64]) yA1
 have dB := aw_dotsR 2 (by simp [U64]) yB1
 have kd0 : KindOk 0 := .inl rfl
 have ha : ∀ v : Int, ∀ x ∈ [(awD v, sl0)], AttrsOk x.1.attrs := fun v x hx => by simp only [List.mem_singleton] at hx; subst hx; exact aw_attrs v
 have hbn : ∀ v : Int, ∀ x ∈ [(awD v, sl0)], x.1.bounds.length ≤ 900 := fun v x hx => by simp only [List.mem_singleton] at hx; subst hx; exact Nat.zero_le _
 have CAA := Lib.hid fun (W : World) (hW : Below W4.heap.size W4 W) => c11k kd0 kd0 false false false false false false (some ⟨g1, 0, none⟩) (some ⟨g1, 0, none⟩) 1 1 1 1 [(awD 1, sl0)] [(awD 1, sl0)] false false W ((dA.below hW).more hW.size) ((dA.below hW).more hW.size) (ha 1) (hbn 1) (by decide) (ha 1) (hbn 1) (by decide) (utf8_below hT hT4 (below_then HBW.out HBW.out.size hW)) (Nat.lt_of_lt_of_le hT4 (below_then HBW.out HBW.out.size hW).size)
 have CAB := Lib.hid fun (W : World) (hW : Below W4.heap.size W4 W) => c11k kd0 kd0 false false false false false false (some ⟨g1, 0, none⟩) (some ⟨g2, 0, none⟩) 1 1 1 1 [(awD 1, sl0)] [(awD 2, sl0)] false false W ((dA.below hW).more hW.size) ((dB.below hW).more hW.size) (ha 1) (hbn 1) (by decide) (ha 2) (hbn 2) (by decide) (utf8_below hT hT4 (below_then HBW.out HBW.out.size hW)) (Nat.lt_of_lt_of_le hT4 (below_then HBW.out HBW.out.size hW).size)
 have CAV := Lib.hid fun (W : World) (hW : Below W4.heap.size W4 W) => c11k kd0 kd0 false false false false false false (some ⟨g1, 0, none⟩) (some ⟨g2, 0, none⟩) 1 1 1 1 [(awD 1, sl0)] [(awD 2, sl0)] false true W ((dA.below hW).more hW.size) ((dB.below hW).more hW.size) (ha 1) (hbn 1) (by decide) (ha 2) (hbn 2) (by decide) (utf8_below hT hT4 (below_then HBW.out HBW.out.size hW)) (Nat.lt_of_lt_of_le hT4 (below_then HBW.out HBW.out.size hW).size)
 have eAA : (headK 0 0 false false false false false false && (([(awD 1, sl0)].map (·.1)).length == ([(awD 1, sl0)].map (·.1)).length && greedy (sameDot 0 false false false) ([(awD 1, sl0)].map (·.1)) ([(awD 1, sl0)].map (·.1)))) = true := by
  have e : sameDot 0 false false false (awD 1) (awD 1) = true := by simp [sameDot, attrsEq, timesEq, dotVal, dVal, awD, sortK_nil, listEq]
  simp [headK, greedy, takeP, e]
 have eAB : (headK 0 0 false false false false false false && (([(awD 1, sl0)].map (·.1)).length == ([(awD 2, sl0)].map (·.1)).length && greedy (sameDot 0 false false false) ([(awD 1, sl0)].map (·.1)) ([(awD 2, sl0)].map (·.1)))) = false := by
  have e : sameDot 0 false false false (awD 1) (awD 2) = false := by simp [sameDot, attrsEq, timesEq, dotVal, dVal, awD]
  simp [headK, greedy, takeP, e]
 have eAV : (headK 0 0 false false false false false false && (([(awD 1, sl0)].map (·.1)).length == ([(awD 2, sl0)].map (·.1)).length && greedy (sameDot 0 false false true) ([(awD 1, sl0)].map (·.1)) ([(awD 2, sl0)].map (·.1)))) = true := by
  have e : sameDot 0 false false true (awD 1) (awD 2) = true := by simp [sameDot, attrsEq, timesEq, dotVal, dVal, awD, sortK_nil, listEq]
  simp [headK, greedy, takeP, e]
 rw [eAA] at CAA
 rw [eAB] at CAB
 rw [eAV] at CAV
 have ua0 : W4.cell? ⟨x1, 0, none⟩ = some (.int .u8 0) := blk_cell yA2 0 _ rfl
 have ua1 : W4.cell? ⟨x1, 1, none⟩ = some (.bool false) := blk_cell yA2 1 _ rfl
 have ua2 : W4.cell? ⟨x1, 2, none⟩ = some (.bool false) := blk_cell yA2 2 _ rfl
 have ua3 : W4.cell? ⟨x1, 3, none⟩ = some (.bool false) := blk_cell yA2 3 _ rfl
 have ua4 : W4.cell? ⟨x1, 4, none⟩ = some (.slice (some ⟨g1, 0, none⟩) 1 1) := blk_cell yA2 4 _ rfl
 have ub0 : W4.cell? ⟨x2, 0, none⟩ = some (.int .u8 0) := blk_cell zB2 0 _ rfl
 have ub1 : W4.cell? ⟨x2, 1, none⟩ = some (.bool false) := blk_cell zB2 1 _ rfl
 have ub2 : W4.cell? ⟨x2, 2, none⟩ = some (.bool false) := blk_cell zB2 2 _ rfl
 have ub3 : W4.cell? ⟨x2, 3, none⟩ = some (.bool false) := blk_cell zB2 3 _ rfl
 have ub4 : W4.cell? ⟨x2, 4, none⟩ = some (.slice (some ⟨g2, 0, none⟩) 1 1) := blk_cell zB2 4 _ rfl
 have HW1 := Lib.hid hW1
 have HW2 := Lib.hid hW2
 have HW3 := Lib.hid hW3
 have HW4 := Lib.hid hW4
 have HG1 := Lib.hid hg1
 have HG2 := Lib.hid hg2
 have HX1 : Hid (g1 + 1 = x1) := Lib.hid (by omega)
 have HX2 : Hid (g2 + 1 = x2) := Lib.hid (by omega)
 clear hW1 hW2 hW3 hW4 hg1 hg2 hx1 hx2 b1 b2 b3 b4 l1 l2 l3 l4 zA1 zA2 zB1 zB2 yA1 yA2 yB1 dA dB ha hbn eAA eAB eAV hT hcA hcB cA cB
 go_enter Tryz.func9, Tryz.ntmps9
 go_upto_region 2 with (first
  | ((with_reducible refine arm_build (built61v 1) ?_ ?_); kernel_rfl)
  | ((with_reducible refine arm_build (built63v 1 5) ?_ ?_); kernel_rfl)
  | ((with_reducible refine wpList_build1 63 18 (infoD_four infoD63) rfl _ _ rfl Tryz.underlying28 (by decide) ?_ sA ?_); rfl)
  | ((with_reducible refine arm_build (built30v 0 _ _ _) ?_ ?_); rfl)
  | ((with_reducible apply arm_store_new 5 info30'); rfl; simp; rfl; rfl; rfl; rfl))
 rw [← HG1.out, ← HW1.out, HX1.out, ← HW2.out]
 try simp only [Act.put]
 as_aux_lemma => (
 go_upto_region 3 with (first
  | ((with_reducible refine arm_build (built61v 2) ?_ ?_); kernel_rfl)
  | ((with_reducible refine arm_build (built63v 2 5) ?_ ?_); kernel_rfl)
  | ((with_reducible refine wpList_build1 63 18 (infoD_four infoD63) rfl _ _ rfl Tryz.underlying28 (by decide) ?_ sB ?_); rfl)
  | ((with_reducible refine arm_build (built30v 0 _ _ _) ?_ ?_); rfl)
  | ((with_reducible apply arm_store_new 5 info30'); rfl; simp; rfl; rfl; rfl; rfl))
 rw [← HG2.out, ← HW3.out, HX2.out, ← HW4.out]
 try simp only [Act.put]
 as_aux_lemma => (
 go_wp2_with (first
  | (go_at_call 11; (with_reducible refine (CAA.out _ (Below.refl _ _)).mono ?_); rintro e w1 ⟨rfl, hb1⟩; have pa0 := cellk ua0 hb1; have pa1 := cellk ua1 hb1; have pa2 := cellk ua2 hb1; have pa3 := cellk ua3 hb1; have pa4 := cellk ua4 hb1; have pb0 := cellk ub0 hb1; have pb1 := cellk ub1 hb1; have pb2 := cellk ub2 hb1; have pb3 := cellk ub3 hb1; have pb4 := cellk ub4 hb1)
  | (go_at_call 11; (with_reducible refine (CAB.out _ hb1).mono ?_); rintro e w2 ⟨rfl, hb2⟩; have hb12 := below_then hb1 hb1.size hb2; have qa0 := cellk ua0 hb12; have qa1 := cellk ua1 hb12; have qa2 := cellk ua2 hb12; have qa3 := cellk ua3 hb12; have qa4 := cellk ua4 hb12; have qb0 := cellk ub0 hb12; have qb1 := cellk ub1 hb12; have qb2 := cellk ub2 hb12; have qb3 := cellk ub3 hb12; have qb4 := cellk ub4 hb12)
  | (go_at_call 11; (with_reducible refine (CAV.out _ hb12).mono ?_); rintro e w3 ⟨rfl, hb3⟩; have hb13 := below_then hb12 hb12.size hb3))
 go_ret
 exact ⟨rfl, below_then HBW.out HBW.out.size hb13⟩))
end
section
/-! ### FnCompare: the walk -/
theorem attrsOk_of {fl : Bool} {d : Dot} (h : DotRight fl d) (ho : d.Ok) : AttrsOk d.attrs := by
 refine ⟨fun x hx => (ho.attrs x hx).2, h.sizes, ?_, h.nattr⟩
 unfold Apart
 rw [List.pairwise_iff_getElem]
 intro i j hi hj hij e
 exact h.apart j i d.attrs[j] d.attrs[i] hij (List.getElem?_eq_getElem hj) (List.getElem?_eq_getElem hi) e.symm
theorem fst_all {l l' : List (Dot × Sl5)} (h : l'.map (·.1) = l.map (·.1)) {P : Dot → Prop} (hp : ∀ x ∈ l, P x.1) : ∀ x ∈ l', P x.1 := fun x hx => by
 have h1 : x.1 ∈ l'.map (·.1) := List.mem_map.2 ⟨x, hx, rfl⟩
 rw [h] at h1
 obtain ⟨y, hy, e⟩ := List.mem_map.1 h1
 rw [← e]
 exact hp y hy
/-- What compareTo hands back. -/
structure Conv (w : World) (l : List (Dot × Sl5)) (A : Option Addr) (n c : Nat) : Prop where
 ex : ∃ l' : List (Dot × Sl5), l'.map (·.1) = l.map (·.1) ∧ DotsR w w.heap.size A n c l'
theorem Conv.below {w w' : World} {l : List (Dot × Sl5)} {A : Option Addr} {n c : Nat} (h : Conv w l A n c) (hb : Below w.heap.size w w') : Conv w' l A n c := by
 obtain ⟨l', h1, h2⟩ := h.ex
 exact ⟨l', h1, (h2.below hb).more hb.size⟩
theorem sameData_head (it iv : Bool) (a b : Data) : (headK a.kind b.kind a.float b.float a.delta b.delta a.mono b.mono && ((a.dots.map (·.1)).length == (b.dots.map (·.1)).length && greedy (sameDot a.kind a.float it iv) (a.dots.map (·.1)) (b.dots.map (·.1)))) = sameData it iv a b := by
 unfold sameData headEq headK
 rw [sameDots_greedy, List.length_map, List.length_map, Bool.and_assoc, Bool.and_assoc, Bool.and_assoc, Bool.and_assoc, Bool.and_assoc, Bool.and_assoc, Bool.and_assoc]
theorem c11c (it iv : Bool) (a b : Data) {A1 A2 : Option Addr} {n1 c1 n2 c2 : Nat} {w : World} (h1 : Conv w a.dots A1 n1 c1) (h2 : Conv w b.dots A2 n2 c2) (ra : Right a.kind a.float a.dots) (rb : Right b.kind b.float b.dots) (oa : ∀ x ∈ a.dots, x.1.Ok) (ob : ∀ x ∈ b.dots, x.1.Ok) (hT : Lib.Utf8Tabs 3 4 w) (hT4 : 4 < w.heap.size) :
 Calls Tryz.prog 11 #[.agg #[.int .u8 a.kind, .bool a.float, .bool a.delta, .bool a.mono, .slice A1 n1 c1], .agg #[.int .u8 b.kind, .bool b.float, .bool b.delta, .bool b.mono, .slice A2 n2 c2], .bool it, .bool iv] w fun e w' => e = .returned (.bool (sameData it iv a b)) ∧ Below w.heap.size w w' := by
 obtain ⟨l1, e1, d1⟩ := h1.ex
 obtain ⟨l2, e2, d2⟩ := h2.ex
 have k1 : n1 = a.dots.length := by have h := d1.rd.numlen; have h' := congrArg List.length e1; simp only [List.length_map] at h h'; omega
 have k2 : n2 = b.dots.length := by have h := d2.rd.numlen; have h' := congrArg List.length e2; simp only [List.length_map] at h h'; omega
 have := c11k ra.1 rb.1 a.float b.float a.delta b.delta a.mono b.mono A1 A2 n1 c1 n2 c2 l1 l2 it iv w d1 d2
  (fst_all e1 (P := fun d => AttrsOk d.attrs) fun x hx => attrsOk_of (ra.2.2 x hx) (oa x hx)) (fst_all e1 (P := fun d => d.bounds.length ≤ 900) fun x hx => by have := (ra.2.2 x hx).nb; omega) (by have := ra.2.1; omega)
  (fst_all e2 (P := fun d => AttrsOk d.attrs) fun x hx => attrsOk_of (rb.2.2 x hx) (ob x hx)) (fst_all e2 (P := fun d => d.bounds.length ≤ 900) fun x hx => by have := (rb.2.2 x hx).nb; omega) (by have := rb.2.1; omega) hT hT4
 rw [e1, e2, sameData_head] at this
 exact this
theorem c10c (a : Data) {A : Option Addr} {n c : Nat} {w : World} (h : DotsR w w.heap.size A n c a.dots) (ra : Right a.kind a.float a.dots) :
 Calls Tryz.prog 10 #[.agg #[.int .u8 a.kind, .bool a.float, .bool a.delta, .bool a.mono, .slice A n c]] w fun e w' => ∃ (A' : Option Addr) (c' : Nat), e = .returned (.agg #[.int .u8 a.kind, .bool a.float, .bool a.delta, .bool a.mono, .slice A' n c']) ∧ Conv w' a.dots A' n c' ∧ Below w.heap.size w w' := by
 have hl := h.rd.numlen
 refine (c10 w.heap.size a.kind a.float a.delta a.mono A n c a.dots w (Nat.le_refl _) h (by have := ra.2.1; omega) (fun x hx => by have := (ra.2.2 x hx).nattr; omega)).mono ?_
 rintro e w' ⟨A', c', l', h1, h2, h3, _, h4⟩
 exact ⟨A', c', h1, ⟨l', h2, h3⟩, h4⟩
theorem c8c (ds : List (Data × Sl)) {g : Nat} {w : World} {cells : Array Value} (hz : w.heap[g]? = some (.cells cells 24 (0, 0))) (hcs : cells.toList = (ds.map encDat).flatten) (hn : ds.length ≤ 10) (hd : ∀ x ∈ ds, DotsR w w.heap.size x.2.A x.2.n x.2.c x.1.dots) (hr : ∀ x ∈ ds, Right x.1.kind x.1.float x.1.dots) :
 Calls Tryz.prog 8 #[.slice (some ⟨g, 0, none⟩) ds.length ds.length] w fun e w' => (∃ r, e = .returned (.bool r)) ∧ Below w.heap.size w w' := by
 have hlt := (Array.getElem?_eq_some_iff.1 hz).1
 refine c8 (some ⟨g, 0, none⟩) ds.length ds.length ds w ⟨by simp, Nat.le_refl _, by omega, by omega, ?_, fun _ => ⟨g, 0, rfl, hlt, ?_⟩⟩ (fun x hx => ⟨hd x hx, (hr x hx).2.1, fun y hy => attrsOk_of ((hr x hx).2.2 y hy) ((hd x hx).all y hy).ok⟩) hn
 · (
 intro r hr
 obtain ⟨q, _, rfl⟩ := List.mem_map.1 hr
 rfl)
 · (
 intro j u hu
 rw [Nat.zero_add]
 refine blk_cell hz j u ?_
 rw [← hcs] at hu
 simpa using hu)
theorem infoD24 : ∃ i z, Tryz.prog.info? 24 = some i ∧ i.zero = some z ∧ i.size = 5 ∧ i.bytes = 32 ∧ z.cells.size = 5 := infoD_of (by kernel_rfl)
/-- A slice of two structs, behind a guard or not. -/
theorem arm_bs2 {P : Program} {ops : Array Oper} {rest : List Oper} {a : Act} {w : World} {Q : Exit → Act → World → Prop} {d : Option Tmp} {tt : TypeId} {ps : String} {af : Array Edge} {gd : Option (Nat × Bool)} (e t : TypeId) (x y : Operand) (n : Nat) (hi : ∃ i z, P.info? e = some i ∧ i.zero = some z ∧ i.size = n ∧ z.cells.size = n) (hu : P.underlying t = some (.slice e)) (h0 : 0 < n ∧ n ≤ 100)
 {c1 c2 cs : Array Value} (hcs : (c1.toList ++ c2.toList).toArray = cs) (h1 : c1.size = n) (h2 : c2.size = n) (hw : Region.wanted ⟨d, .buildSlice t 2 #[(0, x), (1, y)], tt, ps, af, gd⟩ (yielded ops a.tmps) = true) (hx : a.eval x = .agg c1) (hy : a.eval y = .agg c2)
 (H : wpList P ops Q rest (a.put d (.slice (some ⟨w.heap.size, 0, none⟩) 2 2)) (w.alloc (.cells cs e))) : wpList P ops Q (⟨d, .buildSlice t 2 #[(0, x), (1, y)], tt, ps, af, gd⟩ :: rest) a w := by
 refine BigFrame.wpList_want hw fun K hK => ?_
 subst hcs
 obtain ⟨i, z, g1, g2, g3, g4⟩ := hi
 refine wp_buildSlice t e 2 #[(0, x), (1, y)] rfl _ i z hu g1 g2 (by rw [g3]; omega) (by rw [g3]; omega) ?_ (hK _ _ H)
 have hf := Great.fill_whole (s := n) h0.1 [Value.agg c1, Value.agg c2] ((Array.range (2 * n)).map (z.cells[· % z.cells.size]!)) (by intro v hv; simp at hv; rcases hv with rfl | rfl <;> assumption) (by simp)
 rw [g3]
 have e2 : (#[(0, x), (1, y)].map fun (i, x) => (i, a.eval x)).toList = [(0, Value.agg c1), (1, Value.agg c2)] := by simp [hx, hy]
 rw [e2]
 simpa [Value.cells] using hf
theorem arm_bs1 {P : Program} {ops : Array Oper} {rest : List Oper} {a : Act} {w : World} {Q : Exit → Act → World → Prop} {d : Option Tmp} {tt : TypeId} {ps : String} {af : Array Edge} {gd : Option (Nat × Bool)} (e t : TypeId) (x : Operand) (n : Nat) (hi : ∃ i z, P.info? e = some i ∧ i.zero = some z ∧ i.size = n ∧ z.cells.size = n) (hu : P.underlying t = some (.slice e)) (h0 : 0 < n ∧ n ≤ 100)
 {c1 : Array Value} (h1 : c1.size = n) (hw : Region.wanted ⟨d, .buildSlice t 1 #[(0, x)], tt, ps, af, gd⟩ (yielded ops a.tmps) = true) (hx : a.eval x = .agg c1)
 (H : wpList P ops Q rest (a.put d (.slice (some ⟨w.heap.size, 0, none⟩) 1 1)) (w.alloc (.cells c1 e))) : wpList P ops Q (⟨d, .buildSlice t 1 #[(0, x)], tt, ps, af, gd⟩ :: rest) a w := by
 refine BigFrame.wpList_want hw fun K hK => ?_
 obtain ⟨i, z, g1, g2, g3, g4⟩ := hi
 refine wp_buildSlice t e 1 #[(0, x)] rfl _ i z hu g1 g2 (by rw [g3]; omega) (by rw [g3]; omega) ?_ (hK _ _ H)
 have hf := Great.fill_whole (s := n) h0.1 [Value.agg c1] ((Array.range (1 * n)).map (z.cells[· % z.cells.size]!)) (by intro v hv; simp at hv; subst hv; exact h1) (by simp)
 rw [g3]
 have e2 : (#[(0, x)].map fun (i, x) => (i, a.eval x)).toList = [(0, Value.agg c1)] := by simp [hx]
 rw [e2]
 simpa [Value.cells] using hf
theorem c8two (a b : Data) (A1 A2 : Option Addr) (n1 k1 n2 k2 : Nat) (W : World) (ha : DotsR W W.heap.size A1 n1 k1 a.dots) (hb : DotsR W W.heap.size A2 n2 k2 b.dots) (ra : Right a.kind a.float a.dots) (rb : Right b.kind b.float b.dots) :
 Calls Tryz.prog 8 #[.slice (some ⟨W.heap.size, 0, none⟩) 2 2] (W.alloc (.cells #[.int .u8 a.kind, .bool a.float, .bool a.delta, .bool a.mono, .slice A1 n1 k1, .int .u8 b.kind, .bool b.float, .bool b.delta, .bool b.mono, .slice A2 n2 k2] 24)) fun e w' => (∃ r, e = .returned (.bool r)) ∧ Below W.heap.size W w' := by
 have hbn : Below W.heap.size W (W.alloc (.cells #[.int .u8 a.kind, .bool a.float, .bool a.delta, .bool a.mono, .slice A1 n1 k1, .int .u8 b.kind, .bool b.float, .bool b.delta, .bool b.mono, .slice A2 n2 k2] 24)) := (Below.refl _ _).alloc (Nat.le_refl _) _
 refine (c8c [(a, ⟨A1, n1, k1⟩), (b, ⟨A2, n2, k2⟩)] (heap_alloc_new W _) rfl (by simp) (fun x hx => ?_) (fun x hx => ?_)).mono ?_
 · (
 simp only [List.mem_cons, List.not_mem_nil, or_false] at hx
 rcases hx with rfl | rfl
 · exact (ha.below hbn).more hbn.size
 · exact (hb.below hbn).more hbn.size)
 · (
 simp only [List.mem_cons, List.not_mem_nil, or_false] at hx
 rcases hx with rfl | rfl
 · exact ra
 · exact rb)
 · rintro e w' ⟨h1, h2⟩
   exact ⟨h1, below_then hbn hbn.size h2⟩
end
end Go.Proofs.YtlpddogcnpokfaaGreatDoor
