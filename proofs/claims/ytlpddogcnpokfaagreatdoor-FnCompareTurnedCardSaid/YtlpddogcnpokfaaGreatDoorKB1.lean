/- Contracts of functions of the program, for the comparison of aggregations (part KB1). -/
import Derived.Test.YtlpddogcnpokfaaGreatDoorKAp
import Derived.Laws.Concat
set_option linter.all false
namespace Go.Proofs.YtlpddogcnpokfaaGreatDoor
open Go.RowKit
section
open Go.Sort
/-- What DataAttrs hands back, and that its memory is new. -/
structure SortedNew (w : World) (n : Nat) (l : List KV) (e : Ending) (w' : World) : Prop where
 out : ∃ A c, e = .returned (.slice A n c) ∧ Rd w' w'.heap.size 2 A n c ((sortK l).map enc2) ∧ Below w.heap.size w w' ∧ ∀ b o t, A = some ⟨b, o, t⟩ → w.heap.size ≤ b
theorem c19n (A : Option Addr) (n c : Nat) (l : List KV) (w : World) (h : Rd w w.heap.size 2 A n c (l.map enc2)) (h8 : n ≤ 12) :
 Calls Tryz.prog 19 #[.slice A n c] w (SortedNew w n l) := by
 have hlen := h.numlen
 have c14' := c14 A n c l w h (by omega)
 have H := Lib.hid c14'
 have HL := Lib.hid hlen
 clear c14' h hlen
 rcases Nat.eq_zero_or_pos n with h0 | h0
 · (
 subst h0
 have hl : l = [] := List.eq_nil_of_length_eq_zero HL.out
 subst hl
 go_enter Tryz.func19, Tryz.ntmps19
 go_wp2_with fail
 refine H.out.mono ?_
 rintro e w1 ⟨v, rfl, hown, hb⟩
 obtain ⟨A1, c1, rfl, hrd, hbase⟩ := rd_of_own (rows := []) hown (by simp) rfl (by omega)
 go_wp2_with (go_at_call 31; refine (c31_none _ _ _ _).mono ?_; rintro e w' ⟨rfl, rfl⟩)
 go_ret
 exact ⟨_, _, rfl, by rw [sortK_nil]; exact hrd, hb, fun b o t e => (hbase b o t e).1⟩)
 · (
 go_enter Tryz.func19, Tryz.ntmps19
 go_wp2_with fail
 refine H.out.mono ?_
 rintro e w1 ⟨v, rfl, hown, hb⟩
 rcases hown.2 with ⟨_, h2⟩ | ⟨g, cap, cur, rfl, hg, hh, hnc, hm, hs, ht⟩
 · omega
 have hcm := hm
 have hlt : g < w1.heap.size := (Array.getElem?_eq_some_iff.1 hh).1
 have hH : HoldsK enc2 2 w1 g 0 l.toArray := holdsK_of_own enc2 (fun _ => rfl) l.toArray hown (by simpa using HL.out) h0
 have c31' := c31 g 0 cap n l.toArray w1 hH hlt (by simpa [HL.out] using h8) (by simpa using HL.out)
 have hH' := Lib.hid hH
 have C := Lib.hid c31'
 have hcm := Lib.hid hcm
 clear hown hh hm hs ht hH c31'
 go_wp2_with fail
 refine C.out.mono ?_
 rintro e w2 ⟨rfl, q, os, hw2⟩
 have hsz : (sortA l.toArray).size = l.toArray.size := size_sortA _
 have hrd : Rd w2 w2.heap.size 2 (some ⟨g, 0, none⟩) n cap ((sortK l).map enc2) := by
  have hk := holdsK_sortWorldK_c enc2 2 w1 g 0 l.toArray (sortA l.toArray) q os hH'.out hlt hsz
  rw [← hw2] at hk
  refine rd_of_holdsK enc2 (fun _ => rfl) _ hk (by rw [hsz]; simpa using HL.out) ?_ hnc (by omega) (by simpa [maxLen] using hcm.out)
  rw [hw2]
  exact Nat.lt_of_lt_of_le hlt (size_sortWorldK_c enc2 2 w1 g 0 q _ os)
 have hb2 : Below w.heap.size w w2 := by
  rw [hw2]
  exact below_sortWorldK enc2 2 hb hb.size hg 0 q _ os
 clear hw2
 go_wp2_with fail
 go_ret
 exact ⟨_, _, rfl, hrd, hb2, fun b o t e => by injection e with e; injection e with e1 _ _; omega⟩)
/-! ### compareApart: its parts -/
theorem infoD57 : ∃ i z, Tryz.prog.info? 57 = some i ∧ i.zero = some z ∧ i.size = 1 ∧ i.bytes = 24 ∧ z.cells.size = 1 := infoD_of (by kernel_rfl)
theorem info24' : (Tryz.prog.info? 24).map (·.size) = some 5 := by kernel_rfl
theorem zero36 (w : World) : (zeroValue 36).run Tryz.prog w = .ok (.slice none 0 0) w := by kernel_rfl
def enc1 (x : Sl × List KV) : List Value := [.slice x.1.A x.1.n x.1.c]
structure SlIn (w : World) (ok : Nat → Prop) (s : Sl) (l : List KV) : Prop where
 rd : Rd w w.heap.size 2 s.A s.n s.c (l.map enc2)
 ok : ∀ b o t, s.A = some ⟨b, o, t⟩ → 0 < s.n → ok b
theorem SlIn.step {w w' : World} {ok ok' : Nat → Prop} {s : Sl} {l : List KV} (h : SlIn w ok s l) (hk : ∀ b, b < w.heap.size → ok b → w'.heap[b]? = w.heap[b]?) (ho : ∀ b, b < w.heap.size → ok b → ok' b) (hs : w.heap.size ≤ w'.heap.size) : SlIn w' ok' s l := by
 obtain ⟨h2, h3⟩ := h
 exact ⟨h2.stay (t := s) h3 hk hs, fun b o t e hn => ho b (rd_lt (t := s) h2 e hn) (h3 b o t e hn)⟩
def SetVal (w : World) (ok : Nat → Prop) (v : Value) : Prop := ∃ (s : Sl) (l : List KV), v = .slice s.A s.n s.c ∧ SlIn w ok s l
theorem SetVal.step {w w' : World} {ok ok' : Nat → Prop} {v : Value} (h : SetVal w ok v) (hk : ∀ b, b < w.heap.size → ok b → w'.heap[b]? = w.heap[b]?) (ho : ∀ b, b < w.heap.size → ok b → ok' b) (hs : w.heap.size ≤ w'.heap.size) : SetVal w' ok' v := by
 obtain ⟨s, l, rfl, h⟩ := h
 exact ⟨s, l, rfl, h.step hk ho hs⟩
theorem SetVal.nil (w : World) (ok : Nat → Prop) : SetVal w ok (.slice none 0 0) := ⟨⟨none, 0, 0⟩, [], rfl, ⟨rd_none _ _ _, fun _ _ _ e => by cases e⟩⟩
/-- The sets that are gathered, in a row of the call's own, and the map of the sets seen. -/
structure CA (w0 wr : World) (bm : Nat) (v : Value) (m : Nat) : Prop where
 ex : ∃ l : List (Sl × List KV), l.length = m ∧ wr.ownsRow w0.heap.size 57 1 v m (l.map enc1).flatten ∧ ∀ q ∈ l, SlIn wr (fun b => v.ownBlock ≠ some b ∧ b ≠ bm) q.1 q.2 ∧ AttrsOk q.2
 held : Held wr bm StrKey (SetVal wr fun b => v.ownBlock ≠ some b ∧ b ≠ bm)
 ne : v.ownBlock ≠ some bm
 bm : w0.heap.size ≤ bm
 bel : Below w0.heap.size w0 wr
theorem CA.below {w0 wr w1 : World} {bm m : Nat} {v : Value} (h : CA w0 wr bm v m) (hb : Below wr.heap.size wr w1) : CA w0 w1 bm v m := by
 obtain ⟨⟨l, h1, h2, h3⟩, h4, h5, h6, h7⟩ := h
 exact ⟨⟨l, h1, own_of_block h2 (fun g hg => hb.block g (h2.lt g hg).2), fun q hq => ⟨(h3 q hq).1.step (fun b hlt _ => hb.block b hlt) (fun b _ h => h) hb.size, (h3 q hq).2⟩⟩, h4.kept (hb.block _ h4.lt) (fun u hu => hu.step (fun b hlt _ => hb.block b hlt) (fun b _ h => h) hb.size), h5, h6, below_then h7 h7.size hb⟩
theorem CA.slice {w0 wr : World} {bm m : Nat} {v : Value} (h : CA w0 wr bm v m) : ∃ A c, v = .slice A m c := by
 obtain ⟨⟨l, _, h2, _⟩, _⟩ := h
 exact own_slice h2
theorem CA.own {w0 wr : World} {bm m : Nat} {v : Value} (h : CA w0 wr bm v m) : ∀ g, v.ownBlock = some g → w0.heap.size ≤ g ∧ g < wr.heap.size := by
 obtain ⟨⟨l, _, h2, _⟩, _⟩ := h
 exact h2.lt
theorem CA.look {w0 wr : World} {bm m : Nat} {v : Value} (h : CA w0 wr bm v m) (s : ByteArray) : ∃ (A : Option Addr) (n c : Nat) (l : List KV) (ok : Bool), (Instr.lookup 53 (.map (some bm)) (.string s) true).run Tryz.prog wr = .ok (.tuple #[.slice A n c, .bool ok]) wr ∧ Rd wr wr.heap.size 2 A n c (l.map enc2) := by
 obtain ⟨lv, ok, hl, hor⟩ := held_lookup h.held (keyOk_string Tryz.underlying9) Tryz.underlying53 (zero36 wr) (key := .string s) ⟨s, rfl⟩
 have : SetVal wr (fun b => v.ownBlock ≠ some b ∧ b ≠ bm) lv := by
  rcases hor with ⟨_, h⟩ | ⟨_, h⟩
  · exact h
  · rw [h]; exact SetVal.nil _ _
 obtain ⟨s2, l2, rfl, hs⟩ := this
 exact ⟨_, _, _, l2, ok, hl, hs.rd⟩
theorem CA.upd {w0 wr : World} {bm m : Nat} {v : Value} (h : CA w0 wr bm v m) (s : ByteArray) {sl : Sl} {l : List KV} (hv : SlIn wr (fun b => v.ownBlock ≠ some b ∧ b ≠ bm) sl l) : ∃ W, (Instr.mapUpdate 53 (.map (some bm)) (.string s) (.slice sl.A sl.n sl.c)).run Tryz.prog wr = .ok () W ∧ CA w0 W bm v m := by
 obtain ⟨W, hrun, hh, hk, hg, hs⟩ := held_update h.held (keyOk_string Tryz.underlying9) Tryz.underlying53 (key := .string s) (val := .slice sl.A sl.n sl.c) ⟨s, rfl⟩ ⟨sl, l, rfl, hv⟩
 obtain ⟨⟨l, h1, h2, h3⟩, h4, h5, h6, h7⟩ := h
 exact ⟨W, hrun, ⟨⟨l, h1, own_of_block h2 (fun g hg' => hk g (fun e => h5 (by rw [hg', e]))), fun q hq => ⟨(h3 q hq).1.step (fun b _ hok => hk b hok.2) (fun b _ h => h) (by omega), (h3 q hq).2⟩⟩, hh.kept rfl (fun u hu => hu.step (fun b _ hok => hk b hok.2) (fun b _ h => h) (by omega)), h5, h6, h7.grown hg h7.size (fun g hg' => by injection hg' with e; omega)⟩⟩
theorem wpList_ca {P : Program} {ops : Array Oper} {rest : List Oper} {o : Oper} {a : Act} {Q : Exit → Act → World → Prop} {by_ : Nat} (hi : ∃ i z, P.info? 57 = some i ∧ i.zero = some z ∧ i.size = 1 ∧ i.bytes = by_ ∧ z.cells.size = 1) (hby : by_ ≤ 1000)
 {w0 wr : World} {bm m : Nat} {v : Value} (h : CA w0 wr bm v m) (hm : m ≤ 1000) {q : Sl × List KV} {cx : Array Value} (hcx : cx = (enc1 q).toArray) (hq : SlIn wr (fun b => v.ownBlock ≠ some b ∧ b ≠ bm) q.1 q.2) (hqo : AttrsOk q.2) (hgd : o.guard = none) (s x : Operand) (t : TypeId)
 (ho : o.op = .call { callee := .builtin .append, args := #[s, x], argTypes := #[t, t] }) (hu : P.underlying t = some (.slice 57)) (hs : a.eval s = v) {gx : Nat} (hx : a.eval x = .slice (some ⟨gx, 0, none⟩) 1 1) (hgx : gx = wr.heap.size)
 (H : ∀ g cap w1, CA w0 w1 bm (.slice (some ⟨g, 0, none⟩) (m + 1) cap) (m + 1) → (∀ sl l, SlIn wr (fun b => v.ownBlock ≠ some b ∧ b ≠ bm) sl l → SlIn w1 (fun b => (Value.slice (some ⟨g, 0, none⟩) (m + 1) cap).ownBlock ≠ some b ∧ b ≠ bm) sl l) → wpList P ops Q rest (a.put o.dst (.slice (some ⟨g, 0, none⟩) (m + 1) cap)) w1) :
 wpList P ops Q (o :: rest) a (wr.alloc (.cells cx 57)) := by
 refine wpList_plain hgd fun K hK => ?_
 subst hgx hcx
 obtain ⟨⟨l, h1, h2, h3⟩, h4, h5, h6, h7⟩ := h
 obtain ⟨i, z, i1, i2, i3, i4, i5⟩ := hi
 have hg0 : wr.grownBy (wr.alloc (.cells (enc1 q).toArray 57)) v.ownBlock := World.grownBy_alloc _ _ _
 have hown := h2.alloc (.cells (enc1 q).toArray 57)
 have hbmlt := h4.lt
 refine wp_append_lies _ s x t ho w0.heap.size 57 i z 1 by_ hu i1 i2 i3 i4 i5 (by decide) v m _ hs hown ⟨wr.heap.size, 0, none⟩ 1 1 (enc1 q) hx rfl ?_ ?_ (by decide) (by simp only [maxLen]; omega) ?_ (by rw [World.size_alloc]; have := h7.size; omega) _ rfl ?_
 · have := World.news_of_block (heap_alloc_new wr (.cells (enc1 q).toArray 57))
   simpa using this
 · (
 intro u hu
 have : (enc1 q).all (·.oneCell') = true := rfl
 exact List.all_eq_true.1 this u hu)
 · have : (m + 1) * by_ ≤ 1001 * 1000 := Nat.mul_le_mul (by omega) hby
   omega
 · (
 intro g cap w1 hown1 hg1 hvg hglt
 have hgt := grownBy_trans hg0 hg1
 have hgv : v.ownBlock = some g ∨ wr.heap.size ≤ g := by
  rcases hvg with h | h
  · exact .inl h
  · rw [World.size_alloc] at h; exact .inr (by omega)
 have hne : ∀ b, b < wr.heap.size → v.ownBlock ≠ some b → (Value.slice (some ⟨g, 0, none⟩) (m + 1) cap).ownBlock ≠ some b := fun b hb hv e => by
  have e' : g = b := Option.some.inj e
  rcases hgv with h | h
  · exact hv (by rw [h, e'])
  · omega
 have hstep : ∀ b, b < wr.heap.size → (v.ownBlock ≠ some b ∧ b ≠ bm) → w1.heap[b]? = wr.heap[b]? := fun b hlt hok => hgt.block b hlt (Ne.symm hok.1)
 have hok : ∀ b, b < wr.heap.size → (v.ownBlock ≠ some b ∧ b ≠ bm) → ((Value.slice (some ⟨g, 0, none⟩) (m + 1) cap).ownBlock ≠ some b ∧ b ≠ bm) := fun b hlt hok => ⟨hne b hlt hok.1, hok.2⟩
 refine hK _ _ (H g cap w1 ⟨⟨l ++ [q], by simp [h1], by simpa using hown1, fun r hr => ?_⟩, h4.kept (hgt.block _ hbmlt (Ne.symm h5)) (fun u hu => hu.step hstep hok hgt.size), hne _ hbmlt h5, h6, h7.grown hgt h7.size (fun k hk => (h2.lt k hk).1)⟩ (fun sl l hsl => hsl.step hstep hok hgt.size))
 rcases List.mem_append.1 hr with hr | hr
 · exact ⟨(h3 r hr).1.step hstep hok hgt.size, (h3 r hr).2⟩
 · simp at hr; subst hr; exact ⟨hq.step hstep hok hgt.size, hqo⟩)
end
section
def encDat (x : Data × Sl) : List Value := [.int .u8 x.1.kind, .bool x.1.float, .bool x.1.delta, .bool x.1.mono, .slice x.2.A x.2.n x.2.c]
structure C8a (w : World) (bm n : Nat) (v i : Value) (wr : World) : Prop where
 ex : ∃ k m : Nat, k ≤ n ∧ i = .int .i64 k ∧ m ≤ 20 * k ∧ CA w wr bm v m
structure C8b (w : World) (bm b0 n : Nat) (v i : Value) (wr : World) : Prop where
 ex : ∃ k m : Nat, k ≤ n ∧ i = .int .i64 k ∧ m ≤ b0 + k ∧ CA w wr bm v m
structure C8c (W : World) (n : Nat) (s i : Value) (wr : World) : Prop where
 ex : ∃ (k : Nat) (b : ByteArray), k ≤ n ∧ i = .int .i64 k ∧ s = .string b ∧ b.size ≤ 300 * k ∧ Below W.heap.size W wr
structure C8d (W : World) (n : Nat) (l : List KV) (v i : Value) (wr : World) : Prop where
 ex : ∃ k : Nat, k ≤ n ∧ i = .int .i64 k ∧ wr.ownsRow W.heap.size 58 2 v k ((l.take k).map enc2).flatten ∧ Below W.heap.size W wr
def sepB : ByteArray := ⟨#[95, 115, 116, 114, 105, 110, 103, 95]⟩
/-- One attribute more behind those that are written. -/
theorem wpList_own2 {P : Program} {ops : Array Oper} {rest : List Oper} {o : Oper} {a : Act} {Q : Exit → Act → World → Prop} {by_ : Nat} (hi : ∃ i z, P.info? 58 = some i ∧ i.zero = some z ∧ i.size = 2 ∧ i.bytes = by_ ∧ z.cells.size = 2) (hby : by_ ≤ 1000)
 {W0 W : World} {v : Value} {j : Nat} {xs : List Value} (h3 : W.ownsRow W0.heap.size 58 2 v j xs) (hb : Below W0.heap.size W0 W) (hm : j ≤ 1000) {y : KV} {cx : Array Value} (hcx : cx = (enc2 y).toArray) (hgd : o.guard = none) (s x : Operand) (t : TypeId)
 (ho : o.op = .call { callee := .builtin .append, args := #[s, x], argTypes := #[t, t] }) (hu : P.underlying t = some (.slice 58)) (hs : a.eval s = v) {gx : Nat} (hx : a.eval x = .slice (some ⟨gx, 0, none⟩) 1 1) (hgx : gx = W.heap.size)
 (H : ∀ g cap w1, w1.ownsRow W0.heap.size 58 2 (.slice (some ⟨g, 0, none⟩) (j + 1) cap) (j + 1) (xs ++ enc2 y) → Below W0.heap.size W0 w1 → wpList P ops Q rest (a.put o.dst (.slice (some ⟨g, 0, none⟩) (j + 1) cap)) w1) :
 wpList P ops Q (o :: rest) a (W.alloc (.cells cx 58)) := by
 refine wpList_plain hgd fun K hK => ?_
 subst hgx hcx
 obtain ⟨i, z, i1, i2, i3, i4, i5⟩ := hi
 have hg0 : W.grownBy (W.alloc (.cells (enc2 y).toArray 58)) v.ownBlock := World.grownBy_alloc _ _ _
 refine wp_append_lies _ s x t ho W0.heap.size 58 i z 2 by_ hu i1 i2 i3 i4 i5 (by decide) v j _ hs (h3.alloc (.cells (enc2 y).toArray 58)) ⟨W.heap.size, 0, none⟩ 1 1 (enc2 y) hx rfl ?_ ?_ (by decide) (by simp only [maxLen]; omega) ?_ (by rw [World.size_alloc]; have := hb.size; omega) _ rfl ?_
 · have := World.news_of_block (heap_alloc_new W (.cells (enc2 y).toArray 58))
   simpa using this
 · (
 intro u hu
 have : (enc2 y).all (·.oneCell') = true := rfl
 exact List.all_eq_true.1 this u hu)
 · have : (j + 1) * by_ ≤ 1001 * 1000 := Nat.mul_le_mul (by omega) hby
   omega
 · intro g cap w1 hown1 hg1 hvg hglt
   exact hK _ _ (H g cap w1 hown1 (hb.grown (grownBy_trans hg0 hg1) hb.size (fun k hk => (h3.lt k hk).1)))
set_option maxRecDepth 100000 in
set_option maxHeartbeats 4000000 in
theorem c8 (A : Option Addr) (n c : Nat) (l : List (Data × Sl)) (w : World) (h : Rd w w.heap.size 5 A n c (l.map encDat)) (hall : ∀ x ∈ l, DotsR w w.heap.size x.2.A x.2.n x.2.c x.1.dots ∧ x.1.dots.length ≤ 20 ∧ ∀ y ∈ x.1.dots, AttrsOk y.1.attrs) (hn : n ≤ 10) :
 Calls Tryz.prog 8 #[.slice A n c] w fun e w' => (∃ r, e = .returned (.bool r)) ∧ Below w.heap.size w w' := by
 have HX := Lib.hid h
 have HALL := Lib.hid hall
 obtain ⟨bm, hbm⟩ : ∃ bm, bm = w.heap.size := ⟨_, rfl⟩
 obtain ⟨WB, hWB⟩ : ∃ WB, WB = w.alloc (.map #[] 0) := ⟨_, rfl⟩
 have hbB : Below w.heap.size w WB := bq hWB
 have hca : CA w WB bm (.slice none 0 0) 0 := ⟨⟨[], rfl, World.ownsRow_nil _ _ _ _, by simp⟩, by rw [hWB, hbm]; exact Held.made w _ _, by simp [Value.ownBlock], by omega, hbB⟩
 have HCA := Lib.hid hca
 have HWB := Lib.hid hWB
 have HBM := Lib.hid hbm
 have hmm := @run_makeMap Tryz.prog
 clear h hall hWB hbB hca hbm
 go_enter Tryz.func8, Tryz.ntmps8
 go_upto_region 2 with fail
 rw [← HWB.out, ← HBM.out]
 try simp only [Act.put]
 clear hmm
 as_aux_lemma => (
 go_upto_region 4 with fail
 go_loopw [4, 6, 8, 9, 10, 12, 13, 14, 15, 16, 17, 19, 23] (fun v _ _ _ _ _ _ _ _ _ _ _ i wr => C8a w bm n v i wr) (fun _ _ _ _ _ _ _ _ _ _ _ _ i _ => n - (intOf i).toNat)
 case atStart => exact ⟨0, 0, Nat.zero_le _, rfl, Nat.le_refl _, HCA.out⟩
 case round => (
 obtain ⟨k, m, hk, rfl, hm, hca⟩ := hrel.ex
 obtain ⟨wo, rfl⟩ : ∃ wo : World, wo = wr := ⟨_, rfl⟩
 obtain ⟨vA, vc, rfl⟩ := hca.slice
 clear HCA
 have HCA := Lib.hid hca
 have HM := Lib.hid hm
 clear hrel hca hm
 by_cases hlt : k < n
 · (
 obtain ⟨ba, oa, r, rfl, hbB, hx, _, ca⟩ := (HX.out.below HCA.out.bel).at_ hlt
 rw [List.getElem?_map, Option.map_eq_some_iff] at hx
 obtain ⟨⟨D, S⟩, hx, rfl⟩ := hx
 obtain ⟨hds, h20, hao⟩ := HALL.out (D, S) (List.mem_of_getElem? hx)
 obtain ⟨cx, hcx⟩ : ∃ cx, cx = (encDat (D, S)).toArray := ⟨_, rfl⟩
 have sx : cx.size = 5 := by rw [hcx]; rfl
 have ox : cx.toList.all (·.oneCell') = true := by rw [hcx]; rfl
 have ca2 : wo.rangeAt ba (oa + k * 5) cx.toList := by rw [hcx]; exact ca
 obtain ⟨x6, hx6⟩ : ∃ x, x = wo.heap.size := ⟨_, rfl⟩
 obtain ⟨W2, hW2⟩ : ∃ W2, W2 = wo.alloc (.cells cx 24) := ⟨_, rfl⟩
 have hb2 : Below wo.heap.size wo W2 := bq hW2
 have z6 : W2.heap[x6]? = some (.cells cx 24 (0, 0)) := by rw [hx6, hW2]; exact heap_alloc_new wo _
 have q6 : W2.cell? ⟨x6, 4, none⟩ = some (.slice S.A S.n S.c) := blk_cell z6 4 _ (by rw [hcx]; rfl)
 have HCA2 := Lib.hid (HCA.out.below hb2)
 have hdl : S.n = D.dots.length := by have := hds.rd.numlen; simpa using this.symm
 have hn20 : S.n ≤ 20 := by show S.n ≤ 20; rw [hdl]; exact h20
 have HDS := Lib.hid hds
 have HAO := Lib.hid hao
 have HW2 := Lib.hid hW2
 have HX6 := Lib.hid hx6
 have i0 : (0 : Int) ≤ (k : Int) := by omega
 have i1 : (k : Int) < (n : Int) := by omega
 clear hx hds hao hcx ca hW2 hx6 hb2 z6 hdl h20 HCA
 as_aux_lemma => (
 go_upto_region 6 with (first
  | ((with_reducible refine arm_load ca2 ?_ 5 info24' Tryz.underlying24 ?_ ?_ ?_); rfl; rfl; exact sx)
  | ((with_reducible apply arm_store_new 5 info24'); rfl; simp; rfl; rfl; assumption; assumption))
 rw [← HW2.out, ← HX6.out]
 try simp only [Act.put]
 clear ca2 sx ox
 as_aux_lemma => (
 go_upto_region 7 with fail
 go_loopw [4, 8, 9, 10, 12, 13, 14, 15, 16, 17, 19, 30] (fun v _ _ _ _ _ _ _ _ _ _ i wr => C8b w bm (20 * k) S.n v i wr) (fun _ _ _ _ _ _ _ _ _ _ _ i _ => S.n - (intOf i).toNat)
 case atStart => exact ⟨0, m, Nat.zero_le _, rfl, by have := HM.out; omega, HCA2.out⟩
 case round => (
 obtain ⟨j, m2, hj, rfl, hm2, hcb⟩ := hrel.ex
 obtain ⟨wp, rfl⟩ : ∃ wo : World, wo = wr := ⟨_, rfl⟩
 obtain ⟨uA, uc, rfl⟩ := hcb.slice
 clear HCA2
 have HCB := Lib.hid hcb
 have HM2 := Lib.hid hm2
 clear hrel hcb hm2
 by_cases hlt2 : j < S.n
 · (
 obtain ⟨bb, ob, d, s, eA, hltb, hy, _, cb⟩ := (HDS.out.below HCB.out.bel).at_ hlt2
 have hym := List.mem_of_getElem? hy
 have hdr := HDS.out.all _ hym
 have hda := HAO.out _ hym
 obtain ⟨cy, hcy⟩ : ∃ cy, cy = (dotCells d s).toArray := ⟨_, rfl⟩
 have sy : cy.size = 18 := by rw [hcy]; rfl
 have oy : cy.toList.all (·.oneCell') = true := by rw [hcy]; rfl
 have cb2 : wp.rangeAt bb (ob + j * 18) cy.toList := by rw [hcy]; exact cb
 obtain ⟨x8, hx8⟩ : ∃ x, x = wp.heap.size := ⟨_, rfl⟩
 obtain ⟨W3, hW3⟩ : ∃ W3, W3 = wp.alloc (.cells cy 42) := ⟨_, rfl⟩
 have hb3 : Below wp.heap.size wp W3 := bq hW3
 have z8 : W3.heap[x8]? = some (.cells cy 42 (0, 0)) := by rw [hx8, hW3]; exact heap_alloc_new wp _
 have q8 : W3.cell? ⟨x8, 0, none⟩ = some (.slice s.a.A s.a.n s.a.c) := blk_cell z8 0 _ (by rw [hcy]; rfl)
 have HCB3 := Lib.hid (HCB.out.below hb3)
 have hal : s.a.n = d.attrs.length := by have := hdr.a.numlen; simpa using this.symm
 have hn8 : s.a.n ≤ 8 := by rw [hal]; exact hda.len
 have C19 := Lib.hid (c19n s.a.A s.a.n s.a.c d.attrs W3 ((hdr.a.below HCB3.out.bel).more HCB3.out.bel.size) (by omega))
 obtain ⟨S1, hS1⟩ : ∃ S1, S1 = sortK d.attrs := ⟨_, rfl⟩
 have hS1l : S1.length = s.a.n := by rw [hS1, length_sortK, hal]
 have HSO : Hid (AttrsOk S1) := Lib.hid (by rw [hS1]; exact hda.sorted)
 have HS1 := Lib.hid hS1
 have HSL := Lib.hid hS1l
 have HW3 := Lib.hid hW3
 have HX8 := Lib.hid hx8
 have j0 : (0 : Int) ≤ (j : Int) := by omega
 have j1 : (j : Int) < (S.n : Int) := by omega
 clear hy hym hdr hda hcy cb hW3 hx8 hb3 z8 hal hS1 hS1l HCB
 rw [eA]
 as_aux_lemma => (
 go_upto_region 9 with (first
  | ((with_reducible refine arm_load cb2 ?_ 18 info42 Tryz.underlying42 ?_ ?_ ?_); rfl; rfl; exact sy)
  | ((with_reducible apply arm_store_new 18 info42); rfl; simp; rfl; rfl; assumption; assumption))
 rw [← HW3.out, ← HX8.out]
 try simp only [Act.put]
 clear cb2 sy oy
 as_aux_lemma => (
 go_upto_region 12 with (go_at_call 19; (with_reducible refine C19.out.mono ?_); rintro e w4 ⟨A9, c9, rfl, hr9, hb4, hnew⟩)
 rw [← HS1.out] at hr9
 have HCB4 := Lib.hid (HCB3.out.below hb4)
 have HSI : Hid (SlIn w4 (fun b => (Value.slice uA m2 uc).ownBlock ≠ some b ∧ b ≠ bm) ⟨A9, s.a.n, c9⟩ S1) := Lib.hid ⟨hr9, fun b o t e _ => by
  have h1 := hnew b o t e
  have h2 := HCB3.out.held.lt
  exact ⟨fun e2 => by have := (HCB3.out.own b e2).2; omega, by omega⟩⟩
 clear hr9 hb4 hnew C19 HCB3
 as_aux_lemma => (
 go_loopw [10, 12, 40] (fun bs _ i wr => C8c w4 s.a.n bs i wr) (fun _ _ i _ => s.a.n - (intOf i).toNat)
 case atStart => exact ⟨0, ⟨#[]⟩, Nat.zero_le _, rfl, rfl, Nat.le_refl _, Below.refl _ _⟩
 case round => (
 obtain ⟨t, bs, ht, rfl, rfl, hbs, hbt⟩ := hrel.ex
 obtain ⟨wq, rfl⟩ : ∃ wo : World, wo = wr := ⟨_, rfl⟩
 have HBT := Lib.hid hbt
 clear hrel hbt
 by_cases hlt3 : t < s.a.n
 · (
 obtain ⟨b9, o9, r, e9, _, hz, _, cc⟩ := ((HSI.out.rd.below HBT.out).at_ hlt3)
 rw [List.getElem?_map, Option.map_eq_some_iff] at hz
 obtain ⟨y, hz, rfl⟩ := hz
 have hsm := HSO.out.small _ (List.mem_of_getElem? hz)
 obtain ⟨cz, hcz⟩ : ∃ cz, cz = (enc2 y).toArray := ⟨_, rfl⟩
 have sz : cz.size = 2 := by rw [hcz]; rfl
 have oz : cz.toList.all (·.oneCell') = true := by rw [hcz]; rfl
 have cc2 : wq.rangeAt b9 (o9 + t * 2) cz.toList := by rw [hcz]; exact cc
 obtain ⟨x12, hx12⟩ : ∃ x, x = wq.heap.size := ⟨_, rfl⟩
 obtain ⟨W5, hW5⟩ : ∃ W5, W5 = wq.alloc (.cells cz 46) := ⟨_, rfl⟩
 have hb5 : Below wq.heap.size wq W5 := bq hW5
 have z12 : W5.heap[x12]? = some (.cells cz 46 (0, 0)) := by rw [hx12, hW5]; exact heap_alloc_new wq _
 have k0 : W5.cell? ⟨x12, 0, none⟩ = some (.string y.key) := blk_cell z12 0 _ (by rw [hcz]; rfl)
 have k1 : W5.cell? ⟨x12, 1, none⟩ = some (.string y.str) := blk_cell z12 1 _ (by rw [hcz]; rfl)
 have HB5 := Lib.hid (below_then HBT.out HBT.out.size hb5)
 have hsep : sepB.size = 8 := rfl
 obtain ⟨g1, hg1⟩ : ∃ g1, g1 = y.key ++ sepB := ⟨_, rfl⟩
 have hg1s : g1.size = y.key.size + 8 := by rw [hg1, ByteArray.size_append, hsep]
 obtain ⟨g2, hg2⟩ : ∃ g2, g2 = g1 ++ y.str := ⟨_, rfl⟩
 have hg2s : g2.size = g1.size + y.str.size := by rw [hg2, ByteArray.size_append]
 obtain ⟨g3, hg3⟩ : ∃ g3, g3 = bs ++ g2 := ⟨_, rfl⟩
 have hg3s : g3.size = bs.size + g2.size := by rw [hg3, ByteArray.size_append]
 have a1 : (Op.stringOp .add y.key sepB).run Tryz.prog W5 = .ok (.string g1) W5 := by rw [hg1]; exact run_string_add_sum _ _ _ (by omega)
 have a2 : (Op.stringOp .add g1 y.str).run Tryz.prog W5 = .ok (.string g2) W5 := by rw [hg2]; exact run_string_add_sum _ _ _ (by omega)
 have a3 : (Op.stringOp .add bs g2).run Tryz.prog W5 = .ok (.string g3) W5 := by rw [hg3]; exact run_string_add_sum _ _ _ (by omega)
 have HG3 : Hid (g3.size ≤ 300 * (t + 1)) := Lib.hid (by omega)
 unfold sepB at a1
 have HW5 := Lib.hid hW5
 have HX12 := Lib.hid hx12
 have t0 : (0 : Int) ≤ (t : Int) := by omega
 have t1 : (t : Int) < (s.a.n : Int) := by omega
 clear hz hsm hcz cc hW5 hx12 hb5 z12 hsep hg1 hg1s hg2 hg2s hg3 hg3s hbs
 subst e9
 as_aux_lemma => (
 go_upto_region 14 with (first
  | ((with_reducible refine arm_load cc2 ?_ 2 info46' Tryz.underlying46 ?_ ?_ ?_); rfl; rfl; exact sz)
  | ((with_reducible apply arm_store_new 2 info46'); rfl; simp; rfl; rfl; assumption; assumption))
 rw [← HW5.out, ← HX12.out]
 try simp only [Act.put]
 go_wp2_with fail
 go_roundw
 case rel => exact ⟨t + 1, g3, by omega, by go_num, rfl, HG3.out, HB5.out⟩
 case measure => simp [intOf]; omega))
 · (
 have htn : t = s.a.n := by omega
 subst htn
 have f9 : ¬ (s.a.n : Int) < (s.a.n : Int) := by omega
 have HCC := Lib.hid (HCB4.out.below HBT.out)
 obtain ⟨A1, n1, c1, l1, ok, hlook, hr1⟩ := HCC.out.look bs
 have hSI : SlIn wq (fun b => (Value.slice uA m2 uc).ownBlock ≠ some b ∧ b ≠ bm) ⟨A9, s.a.n, c9⟩ S1 := HSI.out.step (fun b hlt _ => HBT.out.block b hlt) (fun _ _ h => h) HBT.out.size
 have HSI2 := Lib.hid hSI
 have HR1 := Lib.hid hr1
 clear hSI hr1 hbs HBT HCB4 HSI
 as_aux_lemma => (
 go_upto_region 17 with fail
 clear hlook
 go_cut [65] from 31 to 92 (fun s65 wx => (∃ r, s65 = .bool r) ∧ Below wq.heap.size wq wx)
 case first => (
 as_aux_lemma => (
 cases ok
 · (
 go_wp2_with fail
 go_meet
 exact ⟨⟨_, rfl⟩, Below.refl _ _⟩)
 · (
 have C20 := Lib.hid (c20b A9 A1 s.a.n n1 c9 c1 S1 l1 wq HSI2.out.rd HR1.out _ rfl)
 generalize listEq eq2 S1 l1 = R at C20
 go_wp2_with (go_at_call 20; (with_reducible refine C20.out.mono ?_); rintro e w7 ⟨rfl, hb7⟩)
 all_goals go_meet
 all_goals exact ⟨⟨_, rfl⟩, hb7⟩)))
 case rest => (
 obtain ⟨⟨r, rfl⟩, hbc⟩ := hcut
 obtain ⟨W6, rfl⟩ : ∃ W : World, W = wc := ⟨_, rfl⟩
 have HCD := Lib.hid (HCC.out.below hbc)
 have HSI3 : Hid (SlIn W6 (fun b => (Value.slice uA m2 uc).ownBlock ≠ some b ∧ b ≠ bm) ⟨A9, s.a.n, c9⟩ S1) := Lib.hid (HSI2.out.step (fun b hlt _ => hbc.block b hlt) (fun _ _ h => h) hbc.size)
 clear hbc HSI2 HCC HR1
 cases r
 · (
 obtain ⟨A2, n2, c2, l2, ok2, hlook2, _⟩ := HCD.out.look bs
 as_aux_lemma => (
 go_upto_region 20 with fail
 clear hlook2
 cases ok2
 · as_aux_lemma => (
 go_upto_region 23 with fail
 go_loopw [17, 19, 76] (fun v _ i wr => C8d W6 s.a.n S1 v i wr) (fun _ _ i _ => s.a.n - (intOf i).toNat)
 case atStart => exact ⟨0, Nat.zero_le _, rfl, World.ownsRow_nil _ _ _ _, Below.refl _ _⟩
 case round => (
 obtain ⟨t, ht, rfl, hown, hbt⟩ := hrel.ex
 obtain ⟨wq, rfl⟩ : ∃ wo : World, wo = wr := ⟨_, rfl⟩
 obtain ⟨tA, tc, rfl⟩ := own_slice hown
 have HBT := Lib.hid hbt
 have HOWN := Lib.hid hown
 clear hrel hbt hown
 by_cases hlt3 : t < s.a.n
 · (
 obtain ⟨b9, o9, r, e9, _, hz, _, cc⟩ := ((HSI3.out.rd.below HBT.out).at_ hlt3)
 rw [List.getElem?_map, Option.map_eq_some_iff] at hz
 obtain ⟨y, hz, rfl⟩ := hz
 have HTK : Hid (((S1.take (t + 1)).map enc2).flatten = ((S1.take t).map enc2).flatten ++ enc2 y) := Lib.hid (by
  obtain ⟨hk', he⟩ := List.getElem?_eq_some_iff.1 hz
  rw [List.take_succ_eq_append_getElem hk', List.map_append, he]; simp)
 obtain ⟨cz, hcz⟩ : ∃ cz, cz = (enc2 y).toArray := ⟨_, rfl⟩
 have sz : cz.size = 2 := by rw [hcz]; rfl
 have oz : cz.toList.all (·.oneCell') = true := by rw [hcz]; rfl
 have cc2 : wq.rangeAt b9 (o9 + t * 2) cz.toList := by rw [hcz]; exact cc
 obtain ⟨x19, hx19⟩ : ∃ x, x = wq.heap.size := ⟨_, rfl⟩
 obtain ⟨W5, hW5⟩ : ∃ W5, W5 = wq.alloc (.cells cz 46) := ⟨_, rfl⟩
 have hb5 : Below wq.heap.size wq W5 := bq hW5
 have z19 : W5.heap[x19]? = some (.cells cz 46 (0, 0)) := by rw [hx19, hW5]; exact heap_alloc_new wq _
 have HB5 := Lib.hid (below_then HBT.out HBT.out.size hb5)
 have HO5 := Lib.hid (own_of_block HOWN.out (fun g hg => hb5.block g (HOWN.out.lt g hg).2))
 have HCZ := Lib.hid hcz
 have HW5 := Lib.hid hW5
 have HX19 := Lib.hid hx19
 have t0 : (0 : Int) ≤ (t : Int) := by omega
 have t1 : (t : Int) < (s.a.n : Int) := by omega
 clear hz hcz cc hW5 hx19 hb5
 subst e9
 as_aux_lemma => (
 go_upto_region 25 with (first
  | ((with_reducible refine arm_load cc2 ?_ 2 info46' Tryz.underlying46 ?_ ?_ ?_); rfl; rfl; exact sz)
  | ((with_reducible apply arm_store_new 2 info46'); rfl; simp; rfl; rfl; assumption; assumption))
 rw [← HW5.out, ← HX19.out]
 try simp only [Act.put]
 go_wp2_with (first
  | ((with_reducible refine arm_load_all 2 info46' Tryz.underlying46 z19 ?_ ?_ ?_ ?_); rfl; rfl; exact sz)
  | ((with_reducible refine wpList_build1 58 2 (infoD_four infoD58) rfl _ _ rfl Tryz.underlying57 (by decide) ?_ sz ?_); rfl)
  | (at_builtin; (refine wpList_own2 infoD58 (by decide) HO5.out HB5.out (by omega) HCZ.out rfl _ _ 57 rfl Tryz.underlying57 rfl rfl rfl ?_); intro g cap w7 hown7 hb7))
 go_roundw
 case rel => exact ⟨t + 1, by omega, by go_num, by rw [HTK.out]; exact hown7, hb7⟩
 case measure => simp [intOf]; omega))
 · (
 have htn : t = s.a.n := by omega
 subst htn
 have f9 : ¬ (s.a.n : Int) < (s.a.n : Int) := by omega
 have htk : S1.take s.a.n = S1 := List.take_of_length_le (by have := HSL.out; omega)
 have hown := HOWN.out
 rw [htk] at hown
 obtain ⟨sA, sc, hs, hrd, hlo⟩ := rd_of_row hown HSL.out (by omega)
 injection hs with e1 e2 e3
 subst e1 e3
 have hsl : SlIn wq (fun b => (Value.slice uA m2 uc).ownBlock ≠ some b ∧ b ≠ bm) ⟨tA, s.a.n, tc⟩ S1 := ⟨hrd, fun b o t e _ => by
  have h1 := hlo b o t e
  have h2 := HCD.out.held.lt
  exact ⟨fun e2 => by have := (HCD.out.own b e2).2; omega, by omega⟩⟩
 have HSLI := Lib.hid hsl
 have HCE := Lib.hid (HCD.out.below HBT.out)
 have HSI4 : Hid (SlIn wq (fun b => (Value.slice uA m2 uc).ownBlock ≠ some b ∧ b ≠ bm) ⟨A9, s.a.n, c9⟩ S1) := Lib.hid (HSI3.out.step (fun b hlt _ => HBT.out.block b hlt) (fun _ _ h => h) HBT.out.size)
 have HMM : Hid (m2 ≤ 1000) := Lib.hid (by have := HM2.out; omega)
 clear htk hown hrd hlo hsl HOWN HBT
 as_aux_lemma => (
 go_upto_region 28 with (at_builtin; (refine wpList_ca infoD57 (by decide) HCE.out HMM.out (q := (⟨tA, s.a.n, tc⟩, S1)) rfl HSLI.out HSO.out rfl _ _ 54 rfl Tryz.underlying54 rfl rfl rfl ?_); intro g cap w8 hca8 hsl8)
 obtain ⟨W9, hup, hca9⟩ := hca8.upd bs (hsl8 _ _ HSI4.out)
 go_wp2_with fail
 go_roundw
 case rel => exact ⟨j + 1, m2 + 1, by omega, by go_num, by have := HM2.out; omega, hca9⟩
 case measure => simp [intOf]; omega))))
 · as_aux_lemma => (
 go_upto_region 28 with fail
 obtain ⟨W9, hup, hca9⟩ := HCD.out.upd bs HSI3.out
 go_wp2_with fail
 go_roundw
 case rel => exact ⟨j + 1, m2, by omega, by go_num, by have := HM2.out; omega, hca9⟩
 case measure => simp [intOf]; omega)))
 · as_aux_lemma => (
 go_wp2_with fail
 go_ret
 first | exact ⟨⟨_, rfl⟩, HCD.out.bel⟩ | exact ⟨.inl rfl, HCD.out.bel⟩ | exact ⟨.inr rfl, HCD.out.bel⟩)))))))))
 · (
 have f9 : ¬ (j : Int) < (S.n : Int) := by omega
 as_aux_lemma => (
 go_wp2_with fail
 go_roundw
 case rel => exact ⟨k + 1, m2, by omega, by go_num, by have := HM2.out; omega, HCB.out⟩
 case measure => simp [intOf]; omega))))))
 · (
 have hkn : k = n := by omega
 have f9 : ¬ (k : Int) < (n : Int) := by omega
 have C21 : Hid (Calls Tryz.prog 21 #[.slice vA m vc] wo fun e w' => (∃ r, e = .returned (.bool r)) ∧ Below wo.heap.size wo w') := Lib.hid (by
  obtain ⟨ls, h1, h2, h3⟩ := HCA.out.ex
  obtain ⟨A', c', hv, hrd, _⟩ := rd_of_own h2 (fun r hr => by obtain ⟨q, _, rfl⟩ := List.mem_map.1 hr; rfl) (by rw [List.length_map, h1]) (by have := HM.out; omega)
  injection hv with e1 e2 e3
  subst e1 e3
  exact c21 vA m vc ls wo hrd (fun x hx => ⟨(h3 x hx).1.rd, (h3 x hx).2⟩) (by have := HM.out; omega))
 clear hkn
 as_aux_lemma => (
 go_wp2_with (go_at_call 21; (with_reducible refine C21.out.mono ?_); rintro e w9 ⟨⟨r, rfl⟩, hb9⟩)
 go_ret
 first | exact ⟨⟨_, rfl⟩, below_then HCA.out.bel HCA.out.bel.size hb9⟩ | exact ⟨.inl rfl, below_then HCA.out.bel HCA.out.bel.size hb9⟩ | (refine ⟨?_, below_then HCA.out.bel HCA.out.bel.size hb9⟩; cases r <;> simp)))))
end
end Go.Proofs.YtlpddogcnpokfaaGreatDoor
