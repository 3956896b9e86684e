/- Contracts of functions of the program, for the comparison of aggregations (part KA2). -/
import Derived.Test.YtlpddogcnpokfaaGreatDoorKA1
import Derived.Test.YtlpddogcnpokfaaGreatDoorKShelf
import Derived.Laws.StructEq
set_option linter.all false
namespace Go.Proofs.YtlpddogcnpokfaaGreatDoor
open Go.RowKit
section
open Go.Sort
/-! ### Rows of the call's own; sorting -/
def cmpK (x y : KV) : Int := Lib.compareBytes x.key.data.toList y.key.data.toList
def sortA (d : Array KV) : Array KV := Sort.insertionSort (ltOf cmpK) d 0 d.size
def sortK (l : List KV) : List KV := (sortA l.toArray).toList
theorem rd_of_own {w : World} {base : Nat} {e : TypeId} {size n : Nat} {v : Value} {rows : List (List Value)} (h : w.ownsRow base e size v n rows.flatten) (hr : ∀ r ∈ rows, r.length = size) (hl : rows.length = n) (hn : n ≤ 140737488351232) :
 ∃ A c, v = .slice A n c ∧ Rd w w.heap.size size A n c rows ∧ (∀ b o s, A = some ⟨b, o, s⟩ → base ≤ b ∧ b < w.heap.size) := by
 rcases h.2 with ⟨rfl, rfl⟩ | ⟨g, cap, cur, rfl, hb, hh, hnc, hm, hs, ht⟩
 · exact ⟨none, 0, rfl, ⟨hl, Nat.le_refl _, by omega, by omega, hr, fun h => by omega⟩, fun b o s h => by cases h⟩
 · (
 have hlt : g < w.heap.size := (Array.getElem?_eq_some_iff.1 hh).1
 refine ⟨_, cap, rfl, ⟨hl, hnc, hn, by simpa [maxLen] using hm, hr, fun _ => ⟨g, 0, rfl, hlt, ?_⟩⟩, fun b o s h => by
  injection h with h
  injection h with h1 h2 h3
  subst h1
  exact ⟨hb, hlt⟩⟩
 intro j u hu
 rw [cell_of_row w g _ _ _ _ hh, Nat.zero_add]
 have hj := (List.getElem?_eq_some_iff.1 hu).1
 rw [← ht, List.getElem?_take] at hu
 split at hu
 · simpa using hu
 · cases hu)
theorem flat_rows {α : Type} [Inhabited α] (enc : α → List Value) (k : Nat) (hk : ∀ x, (enc x).length = k) (d : Array α) : (flatK enc k d).toList = (d.toList.map enc).flatten := by
 apply List.ext_getElem?
 intro t
 have hlen : ((d.toList.map enc).flatten).length = d.size * k := by
  rw [List.length_flatten, List.map_map]
  have : (d.toList.map (List.length ∘ enc)) = List.replicate d.toList.length k := by
   rw [← List.map_const']
   exact List.map_congr_left fun x _ => hk x
  rw [this, List.sum_replicate_nat, Array.length_toList]
 by_cases ht : t < d.size * k
 · (
 have k0 : 0 < k := by
  rcases Nat.eq_zero_or_pos k with h | h
  · subst h
    simp at ht
  · exact h
 have hq : t / k < d.size := (Nat.div_lt_iff_lt_mul k0).2 ht
 have hrow : (d.toList.map enc)[t / k]? = some (enc d[t / k]!) := by
  rw [List.getElem?_map, Array.getElem?_toList, Array.getElem?_eq_getElem hq]
  simp [getElem!_pos d (t / k) hq]
 have hm : t % k < k := Nat.mod_lt _ k0
 have h1 := flatten_at k (d.toList.map enc) (t / k) (t % k) _ (fun r hr => by
  obtain ⟨x, _, rfl⟩ := List.mem_map.1 hr
  exact hk x) hrow hm
 rw [Nat.div_add_mod' t k] at h1
 rw [h1]
 have h2 := get_flatK enc k d t ht
 have hsz : t < (flatK enc k d).size := by simpa using ht
 rw [getElem!_pos _ t hsz] at h2
 rw [Array.getElem?_toList, Array.getElem?_eq_getElem hsz, h2]
 have hl : t % k < (enc d[t / k]!).length := by rw [hk]; exact hm
 rw [List.getElem?_eq_getElem hl, getElem!_pos _ (t % k) hl])
 · rw [List.getElem?_eq_none (by simpa using ht), List.getElem?_eq_none (by omega)]
theorem holdsK_of_own {α : Type} [Inhabited α] {w : World} {base : Nat} {e : TypeId} {k n g cap : Nat} (enc : α → List Value) (hk : ∀ x, (enc x).length = k) (d : Array α) (h : w.ownsRow base e k (.slice (some ⟨g, 0, none⟩) n cap) n (d.toList.map enc).flatten) (hd : d.size = n) (hn : 0 < n) :
 HoldsK enc k w g 0 d := by
 intro j hj
 rcases h.2 with ⟨h0, _⟩ | ⟨g2, cap2, cur, he, hb2, hh, hnc, hm, hs, ht⟩
 · cases h0
 · (
 injection he with he _ _
 injection he with he
 injection he with he
 subst he
 have hj' : j < d.size * k := by simpa using hj
 have hsz : j < (flatK enc k d).size := hj
 have hx : ((d.toList.map enc).flatten)[j]? = some (flatK enc k d)[j]! := by
  rw [← flat_rows enc k hk d, Array.getElem?_toList, Array.getElem?_eq_getElem hsz, getElem!_pos _ j hsz]
 refine ⟨?_, by simp [World.frozen?, hh]⟩
 rw [Nat.zero_add, cell_of_row w g j _ _ _ hh]
 rw [← ht, List.getElem?_take] at hx
 split at hx
 · simpa using hx
 · cases hx)
theorem rd_of_holdsK {α : Type} [Inhabited α] {w : World} {k g off n c B : Nat} (enc : α → List Value) (hk : ∀ x, (enc x).length = k) (d : Array α) (h : HoldsK enc k w g off d) (hd : d.size = n) (hg : g < B) (hc : n ≤ c) (hn : n ≤ 140737488351232) (hct : c ≤ 9223372036854775807) :
 Rd w B k (some ⟨g, off, none⟩) n c (d.toList.map enc) := by
 refine ⟨by simpa using hd, hc, hn, hct, fun r hr => ?_, fun _ => ⟨g, off, rfl, hg, ?_⟩⟩
 · obtain ⟨x, _, rfl⟩ := List.mem_map.1 hr
   exact hk x
 · (
 intro j v hv
 rw [← flat_rows enc k hk d, Array.getElem?_toList] at hv
 have hsz := (Array.getElem?_eq_some_iff.1 hv).1
 have := (h j hsz).1
 rw [this]
 rw [Array.getElem?_eq_getElem hsz] at hv
 rw [getElem!_pos _ j hsz]
 exact hv)
theorem below_sortWorldK {α : Type} [Inhabited α] (enc : α → List Value) (k : Nat) {B : Nat} {w0 w : World} (h : Below B w0 w) (hB : B ≤ w.heap.size) {g : Nat} (hg : B ≤ g) (off n : Nat) (d : Array α) (os : Array Obj) : Below B w0 (sortWorldK enc k w g off n d os) := by
 refine h.trans ⟨rfl, rfl, rfl, size_sortWorldK_c enc k w g off n d os, fun i hi => ?_⟩
 unfold sortWorldK grow putRowK putRow mapBlock Sort.ahead
 simp only [Array.getElem?_append, Array.size_modify, Array.getElem?_modify]
 rw [if_pos (by omega), if_neg (by omega)]
end
section
open Go.Sort
theorem info46 : (Tryz.prog.info? 46).map (fun i => (i.zero, i.size, i.bytes)) = some (some (.agg #[.string ⟨#[]⟩, .string ⟨#[]⟩]), 2, 32) := by kernel_rfl
theorem info_parts3 {o : Option TypeInfo} {z : Value} {a b : Nat} (h : o.map (fun i => (i.zero, i.size, i.bytes)) = some (some z, a, b)) : ∃ i, o = some i ∧ i.zero = some z ∧ i.size = a ∧ i.bytes = b := by
 cases o with
 | none => simp at h
 | some i => simp at h; exact ⟨i, rfl, h.1, h.2.1, h.2.2⟩
theorem one_enc2 (l : List KV) : ∀ u ∈ (l.map enc2).flatten, u.oneCell' = true := by
 intro u hu
 obtain ⟨r, hr, hu⟩ := List.mem_flatten.1 hu
 obtain ⟨x, _, rfl⟩ := List.mem_map.1 hr
 simp [enc2] at hu
 rcases hu with rfl | rfl <;> rfl
theorem Rd.src {w : World} {B size : Nat} {A : Option Addr} {n c : Nat} {rows : List (List Value)} (h : Rd w B size A n c rows) (ad : Addr) (hA : A = some ad) : rows.flatten.length = n * size ∧ ∀ j u, rows.flatten[j]? = some u → w.cell? (ad.add j) = some u := by
 have hl : rows.flatten.length = n * size := by
  rw [List.length_flatten]
  have : rows.map List.length = List.replicate rows.length size := by
   rw [← List.map_const']
   exact List.map_congr_left fun r hr => h.row r hr
  rw [this, List.sum_replicate_nat, h.len]
 refine ⟨hl, fun j u hu => ?_⟩
 rcases Nat.eq_zero_or_pos n with h0 | h0
 · (
 subst h0
 have := (List.getElem?_eq_some_iff.1 hu).1
 omega)
 · (
 obtain ⟨b, o, he, _, hc⟩ := h.mem h0
 rw [he] at hA
 injection hA with hA
 subst hA
 rw [Addr.add_mid]
 exact hc j u hu)
theorem own_empty (w : World) (e : TypeId) (size B : Nat) (hB : B ≤ w.heap.size) : (w.alloc (.cells #[] e)).ownsRow B e size (.slice (some ⟨w.heap.size, 0, none⟩) 0 0) 0 [] :=
 ⟨by simp, .inr ⟨w.heap.size, 0, #[], rfl, hB, heap_alloc_new w _, Nat.le_refl _, by simp [maxLen], by simp, by simp⟩⟩
theorem keep_alloc {w : World} {p : Addr} {u : Value} (h : w.cell? p = some u) (o : Obj) : (w.alloc o).cell? p = some u := (World.cell?_alloc_lt w o p (World.block_lt_of_cell? w p h)).trans h
set_option maxHeartbeats 400000 in
theorem c14 (A : Option Addr) (n c : Nat) (l : List KV) (w : World) (h : Rd w w.heap.size 2 A n c (l.map enc2)) (hsm : n ≤ 1000) :
 Calls Tryz.prog 14 #[.slice A n c] w fun e w' => ∃ v, e = .returned v ∧ w'.ownsRow w.heap.size 46 2 v n (l.map enc2).flatten ∧ Below w.heap.size w w' := by
 obtain ⟨i0, hi, hz0, hz1, hz2⟩ := info_parts3 info46
 have q22 : ∀ (w : World) (a : Option Addr) (n c n' c' : Nat), (binOp .eql 36 (.slice a n c) (.slice none n' c')).run Tryz.prog w = .ok (.bool a.isNone) w := fun w a n c n' c' => Lib.run_eql_slice_nil w _ _ a n c n' c' Tryz.underlying36
 cases A with
 | none =>
  have hn : n = 0 := by
   rcases Nat.eq_zero_or_pos n with h0 | h0
   · exact h0
   · obtain ⟨b, o, he, _⟩ := h.mem h0
     cases he
  subst hn
  have hl : l = [] := by have := h.numlen; exact List.eq_nil_of_length_eq_zero this
  subst hl
  clear h hi hz0 hz1 hz2
  go_enter Tryz.func14, Tryz.ntmps14
  go_wp2_with fail
  go_ret
  exact ⟨_, rfl, ⟨by simp, .inl ⟨rfl, rfl⟩⟩, Below.refl _ _⟩
 | some ad =>
  have hsrc := h.src ad rfl
  have H := Lib.hid hsrc
  have hn := h.top
  have hi' := Lib.hid hi
  have hz0' := Lib.hid hz0
  have hz1' := Lib.hid hz1
  have hz2' := Lib.hid hz2
  clear hsrc h hi hz0 hz1 hz2
  go_enter Tryz.func14, Tryz.ntmps14
  go_wp2_with (at_builtin; (refine wpList_append_own_at _ rfl _ _ 36 rfl w.heap.size 46 i0 (.agg #[.string ⟨#[]⟩, .string ⟨#[]⟩]) 2 32 Tryz.underlying36 hi'.out hz0'.out hz1'.out hz2'.out rfl (by decide) _ 0 [] rfl (own_empty w 46 2 w.heap.size (Nat.le_refl _)) ad n c (l.map enc2).flatten rfl H.out.1 ?_ (one_enc2 l) ?_ ?_ ?_ ?_); (exact fun j u hu => keep_alloc (H.out.2 j u hu) _); (simp only [maxLen]; omega); omega; simp; intro v1 w1 hown1 hg1 _ _)
  go_ret
  refine ⟨v1, rfl, by simpa using hown1, ((Below.refl _ _).alloc (Nat.le_refl _) _).grown hg1 (by simp) (fun k hk => ?_)⟩
  have hk' : some w.heap.size = some k := hk
  injection hk' with hk'
  omega
theorem c33 (a b : ByteArray) (w : World) : Calls Tryz.prog 33 #[.string a, .string b] w fun e w' => e = .returned (.int .i64 (Lib.compareBytes a.data.toList b.data.toList)) ∧ w = w' := (Tryz.strings_Compare a b w).mono fun _ _ h => ⟨h.1, h.2.symm⟩
theorem c32 (x y : KV) (w : World) : Calls Tryz.prog 32 #[.agg (enc2 x).toArray, .agg (enc2 y).toArray] w fun e w' => e = .returned (.int .i64 (cmpK x y)) ∧ ∃ q os', w' = grow (w.drewN q) os' := by
 unfold enc2 cmpK
 generalize hr : Lib.compareBytes x.key.data.toList y.key.data.toList = r
 have hcon := fun W => c33 x.key y.key W
 rw [hr] at hcon
 have hcon' := Lib.hid hcon
 clear hcon hr
 go_enter Tryz.func32, Tryz.ntmps32
 go_wp2_with (go_at_call 33; refine (hcon'.out _).mono ?_; rintro e w' ⟨rfl, rfl⟩)
 go_ret
 exact ⟨rfl, 0, _, by rw [alloc_eq_grow, alloc_eq_grow, grow_grow]; rfl⟩
theorem cmpLays32 (blk off size : Nat) (w : World) : CmpLays Tryz.prog 32 #[] enc2 2 cmpK blk off size w := fun _ _ _ _ x y => c32 x y _
theorem hlen49 (n : Nat) (W : World) (h : n ≤ 12) : Calls Tryz.prog 49 #[.int .u64 n] W fun e w' => (∃ l : Int, e = .returned (.int .i64 l)) ∧ w' = W :=
 (Tryz.bits_Len n W (by omega) (by omega)).mono fun _ _ ⟨he, hw⟩ => ⟨⟨_, he⟩, hw⟩
theorem eg32 : ∀ args w, (callFunc 32 args).run Tryz.prog w = .ok (.enter 32 args) w := enters_of Tryz.func32 (by kernel_rfl) rfl
theorem c31 (blk off cap n : Nat) (d : Array KV) (w : World) (hH : HoldsK enc2 2 w blk off d) (hblk : blk < w.heap.size) (h12 : d.size ≤ 12) (hn : d.size = n) :
 Calls Tryz.prog 31 #[.slice (some ⟨blk, off, none⟩) n cap, .func (.func 32) #[] #[]] w fun e w' => e = .returned (.tuple #[]) ∧ ∃ n os, w' = sortWorldK enc2 2 w blk off n (sortA d) os := by
 subst hn
 exact AnyQ.slices_SortFunc_small Tryz.sl31 2 Tryz.isAgg46 Tryz.sizeOf46 enc2 (fun _ => rfl) (fun x v hv => by simp [enc2] at hv; rcases hv with rfl | rfl <;> rfl) cmpK 32 #[] blk off cap d w eg32 (cmpLays32 blk off d.size w) hH hblk h12 hlen49
theorem size_insInner {α : Type} [Inhabited α] (lt : α → α → Bool) (a : Nat) : ∀ (j : Nat) (d : Array α), (insInner lt a j d).size = d.size
 | 0, d => rfl
 | j + 1, d => by
  rw [insInner]
  split
  · rw [size_insInner lt a j, size_swp]
  · rfl
theorem size_insOuter {α : Type} [Inhabited α] (lt : α → α → Bool) (a b : Nat) : ∀ (k i : Nat) (d : Array α), b - i = k → (insOuter lt a b i d).size = d.size
 | 0, i, d, h => by
  rw [insOuter, if_neg (by omega)]
 | k + 1, i, d, h => by
  rw [insOuter, if_pos (by omega), size_insOuter lt a b k (i + 1) _ (by omega), size_insInner]
theorem size_sortA (d : Array KV) : (sortA d).size = d.size := size_insOuter _ _ _ _ _ _ rfl
theorem c74_none (p : Option Addr) (cap : Nat) (fv : Value) (w : World) : Calls Tryz.prog 74 #[.slice p 0 cap, .int .i64 0, .int .i64 0, fv] w fun e w' => e = .returned (.tuple #[]) ∧ w = w' := by
 go_enter Tryz.func74, Tryz.ntmps74
 go_wp2_with fail
 refine wp_loop_once ?_
 go_wp2_with fail
 go_end0
 exact ⟨rfl, rfl⟩
theorem c48_none (p : Option Addr) (cap : Nat) (lim : Int) (fv : Value) (w : World) : Calls Tryz.prog 48 #[.slice p 0 cap, .int .i64 0, .int .i64 0, .int .i64 lim, fv] w fun e w' => e = .returned (.tuple #[]) ∧ w = w' := by
 go_enter Tryz.func48, Tryz.ntmps48
 go_wp2_with fail
 refine wp_loop_once ?_
 go_wp2_with (go_at_call 74; refine (c74_none _ _ _ _).mono ?_; rintro e w' ⟨rfl, rfl⟩)
 refine bodyPost_ret (results_none rfl _ _ _) rfl ?_
 exact ⟨rfl, rfl⟩
theorem c49_0 (w : World) : Calls Tryz.prog 49 #[.int .u64 0] w fun e w' => (∃ l : Int, e = .returned (.int .i64 l)) ∧ w = w' :=
 (Tryz.bits_Len 0 w (by omega) (by omega)).mono fun _ _ ⟨he, hw⟩ => ⟨⟨_, he⟩, hw.symm⟩
theorem c31_none (p : Option Addr) (cap : Nat) (fv : Value) (w : World) : Calls Tryz.prog 31 #[.slice p 0 cap, fv] w fun e w' => e = .returned (.tuple #[]) ∧ w = w' := by
 go_enter Tryz.func31, Tryz.ntmps31
 go_wp2_with (first | (go_at_call 49; refine (c49_0 _).mono ?_; rintro e w' ⟨⟨l, rfl⟩, rfl⟩) | (go_at_call 48; refine (c48_none _ _ _ _ _).mono ?_; rintro e w' ⟨rfl, rfl⟩))
 go_end0
 exact ⟨rfl, rfl⟩
theorem length_sortK (l : List KV) : (sortK l).length = l.length := by
 unfold sortK
 rw [Array.length_toList, size_sortA]
 simp
theorem sortK_nil : sortK [] = [] := List.eq_nil_of_length_eq_zero (length_sortK [])
/-- What DataAttrs hands back: the attributes sorted, in memory of the call's own. -/
structure SortedAt (w : World) (n : Nat) (l : List KV) (e : Ending) (w' : World) : Prop where
 out : ∃ A c, e = .returned (.slice A n c) ∧ Rd w' w'.heap.size 2 A n c ((sortK l).map enc2) ∧ Below w.heap.size w w'
theorem c19 (A : Option Addr) (n c : Nat) (l : List KV) (w : World) (h : Rd w w.heap.size 2 A n c (l.map enc2)) (h8 : n ≤ 12) :
 Calls Tryz.prog 19 #[.slice A n c] w (SortedAt w n l) := by
 have hlen := h.numlen
 have c14' := c14 A n c l w h (by omega)
 have H := Lib.hid c14'
 have HL := Lib.hid hlen
 clear c14' h hlen
 rcases Nat.eq_zero_or_pos n with h0 | h0
 · (
 subst h0
 have hl : l = [] := List.eq_nil_of_length_eq_zero HL.out
 subst hl
 go_enter Tryz.func19, Tryz.ntmps19
 go_wp2_with fail
 refine H.out.mono ?_
 rintro e w1 ⟨v, rfl, hown, hb⟩
 obtain ⟨A1, c1, rfl, hrd, hbase⟩ := rd_of_own (rows := []) hown (by simp) rfl (by omega)
 go_wp2_with (go_at_call 31; refine (c31_none _ _ _ _).mono ?_; rintro e w' ⟨rfl, rfl⟩)
 go_ret
 exact ⟨_, _, rfl, by rw [sortK_nil]; exact hrd, hb⟩)
 · (
 go_enter Tryz.func19, Tryz.ntmps19
 go_wp2_with fail
 refine H.out.mono ?_
 rintro e w1 ⟨v, rfl, hown, hb⟩
 rcases hown.2 with ⟨_, h2⟩ | ⟨g, cap, cur, rfl, hg, hh, hnc, hm, hs, ht⟩
 · omega
 have hcm := hm
 have hlt : g < w1.heap.size := (Array.getElem?_eq_some_iff.1 hh).1
 have hH : HoldsK enc2 2 w1 g 0 l.toArray := holdsK_of_own enc2 (fun _ => rfl) l.toArray hown (by simpa using HL.out) h0
 have c31' := c31 g 0 cap n l.toArray w1 hH hlt (by simpa [HL.out] using h8) (by simpa using HL.out)
 have hH' := Lib.hid hH
 have C := Lib.hid c31'
 have hcm := Lib.hid hcm
 clear hown hh hm hs ht hH c31'
 go_wp2_with fail
 refine C.out.mono ?_
 rintro e w2 ⟨rfl, q, os, hw2⟩
 have hsz : (sortA l.toArray).size = l.toArray.size := size_sortA _
 have hrd : Rd w2 w2.heap.size 2 (some ⟨g, 0, none⟩) n cap ((sortK l).map enc2) := by
  have hk := holdsK_sortWorldK_c enc2 2 w1 g 0 l.toArray (sortA l.toArray) q os hH'.out hlt hsz
  rw [← hw2] at hk
  refine rd_of_holdsK enc2 (fun _ => rfl) _ hk (by rw [hsz]; simpa using HL.out) ?_ hnc (by omega) (by simpa [maxLen] using hcm.out)
  rw [hw2]
  exact Nat.lt_of_lt_of_le hlt (size_sortWorldK_c enc2 2 w1 g 0 q _ os)
 have hb2 : Below w.heap.size w w2 := by
  rw [hw2]
  exact below_sortWorldK enc2 2 hb hb.size hg 0 q _ os
 clear hw2
 go_wp2_with fail
 go_ret
 exact ⟨_, _, rfl, hrd, hb2⟩)
end
section
/-- Two attributes are the same: key and text. -/
def eq2 (x y : KV) : Bool := x.key.toList == y.key.toList && x.str.toList == y.str.toList
theorem neq46 (x y : KV) (b : Bool) (hb : eq2 x y = b) (w : World) : (binOp .neq 46 (.agg #[.string x.key, .string x.str]) (.agg #[.string y.key, .string y.str])).run Tryz.prog w = .ok (.bool (!b)) w := by
 have hS : Tryz.prog.underlying 46 = some (.struct (Tryz.prog.fieldsOf 46)) := by kernel_rfl
 have hp : Tryz.prog.stoodInHeld 46 = false := by kernel_rfl
 rw [run_neq_struct, show (10000 : Nat) = 9999 + 1 from rfl, run_equalIn_agg w 9999 46 _ _ hS hp]
 simp only [Program.fieldsOf, Tryz.underlying46]
 go_simp
 subst hb
 unfold eq2
 by_cases h1 : x.key.toList = y.key.toList <;> by_cases h2 : x.str.toList = y.str.toList <;> simp [h1, h2]
theorem Rd.kv {w : World} {B : Nat} {A : Option Addr} {n c : Nat} {xs : List KV} (h : Rd w B 2 A n c (xs.map enc2)) {i : Nat} (hi : i < n) :
 ∃ b o x, A = some ⟨b, o, none⟩ ∧ b < B ∧ xs[i]? = some x ∧ w.cell? ⟨b, o + i * 2, none⟩ = some (.string x.key) ∧ w.cell? ⟨b, o + i * 2 + 1, none⟩ = some (.string x.str) := by
 obtain ⟨b, o, r, ha, hb, hr, hl, hc⟩ := h.at_ hi
 rw [List.getElem?_map, Option.map_eq_some_iff] at hr
 obtain ⟨x, hx, rfl⟩ := hr
 have h0 := hc 0 _ rfl
 have h1 := hc 1 _ rfl
 rw [Nat.add_zero] at h0
 exact ⟨b, o, x, ha, hb, hx, h0, h1⟩
set_option maxHeartbeats 400000 in
theorem c20 (A1 A2 : Option Addr) (n1 n2 k1 k2 : Nat) (xs ys : List KV) (w : World) (h1 : Rd w w.heap.size 2 A1 n1 k1 (xs.map enc2)) (h2 : Rd w w.heap.size 2 A2 n2 k2 (ys.map enc2)) :
 Calls Tryz.prog 20 #[.slice A1 n1 k1, .slice A2 n2 k2] w fun e w' => e = .returned (.bool (listEq eq2 xs ys)) ∧ Below w.heap.size w w' := by
 have l1 := h1.numlen
 have l2 := h2.numlen
 have b1 := h1.cap
 have b2 := h2.cap
 have t1 := h1.top
 have t2 := h2.top
 by_cases hn : n1 = n2
 · (
 have hl : Hid (xs.length = ys.length) := by unfold Hid; omega
 subst hn
 have l1' := Lib.hid l1
 have l2' := Lib.hid l2
 clear l1 l2
 go_enter Tryz.func20, Tryz.ntmps20
 go_wp2_with fail
 go_loopw [13] (fun i wr => ∃ k : Nat, k ≤ n1 ∧ i = .int .i64 k ∧ SameTo eq2 xs ys k ∧ Below w.heap.size w wr) (fun i _ => n1 - (intOf i).toNat)
 case atStart => exact ⟨0, Nat.zero_le _, rfl, SameTo.zero, Below.refl _ _⟩
 case round => (
 obtain ⟨k, hk, rfl, hs, hb⟩ := hrel
 by_cases hlt : k < n1
 · (
 obtain ⟨ba, oa, x, rfl, _, hx, ca, ca'⟩ := (h1.below hb).kv hlt
 obtain ⟨bb, ob, y, rfl, _, hy, cb, cb'⟩ := (h2.below hb).kv hlt
 have hx' := Lib.hid hx
 have hy' := Lib.hid hy
 clear hx hy h1 h2
 have hi0 : (0 : Int) ≤ (k : Int) := by omega
 have hi1 : (k : Int) < (n1 : Int) := by omega
 cases hp : eq2 x y with
 | true =>
  have hq := neq46 x y true hp
  have hp' := Lib.hid hp
  clear hp
  go_wp2_with fail
  go_quiet (fail)
  go_wp2_with fail
  go_roundw
  case rel => exact ⟨k + 1, by omega, by go_num, hs.succ hx'.out hy'.out hp'.out, below_drewN hb _⟩
  case measure => simp [intOf]; omega
 | false =>
  have hq := neq46 x y false hp
  have hp' := Lib.hid hp
  clear hp
  go_wp2_with fail
  go_quiet (fail)
  go_wp2_with fail
  go_ret
  exact ⟨ret_b (listEq_false_at hx'.out hy'.out hp'.out), below_drewN hb _⟩)
 · (
 go_wp2_with fail
 go_ret
 exact ⟨ret_b (hs.all (by have := l1'.out; omega) hl.out), hb⟩)))
 · (
 go_enter Tryz.func20, Tryz.ntmps20
 go_wp2_with fail
 go_ret
 exact ⟨ret_b (listEq_false_len (by omega)), Below.refl _ _⟩)
end
end Go.Proofs.YtlpddogcnpokfaaGreatDoor
