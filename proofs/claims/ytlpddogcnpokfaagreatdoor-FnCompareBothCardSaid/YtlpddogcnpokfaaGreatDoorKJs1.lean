/- Contracts of functions of the program, for the comparison of aggregations (part KJs1). -/
import Derived.Test.YtlpddogcnpokfaaGreatDoorKA8
import Derived.Test.YtlpddogcnpokfaaGreatDoorKShelfU
import Derived.Shelf.Unicode.DecodeLastEight
import Derived.Lib.RuneCount
import Derived.Shelf.Strings.BuilderK
set_option linter.all false
namespace Go.Proofs.YtlpddogcnpokfaaGreatDoor
open Go.RowKit
/-! ### The text of a set -/
/-- A builder that has taken no more than N bytes. -/
def Bd (w : World) (B b N : Nat) : Prop := ∃ l : List UInt8, Lib.BuilderAtF 299 5 B b (.pointer (some ⟨b, 0, none⟩)) (Lib.byteCells l) w ∧ l.length ≤ N
/-- What its writers leave alone. -/
structure Fr (B b : Nat) (w w' : World) : Prop where
 bel : Below B w w'
 oth : Lib.OthersKept 5 (some b) w w'
theorem Fr.size {B b : Nat} {w w' : World} (h : Fr B b w w') : w.heap.size ≤ w'.heap.size := h.bel.size
theorem Fr.refl (B b : Nat) (w : World) : Fr B b w w := ⟨Below.refl _ _, Lib.OthersKept.refl _ _ _⟩
theorem Fr.trans {B b : Nat} {w w1 w2 : World} (h : Fr B b w w1) (k : Fr B b w1 w2) : Fr B b w w2 := ⟨h.bel.trans k.bel, h.oth.trans k.oth⟩
theorem Fr.of {B b : Nat} {w w1 : World} (h : Below w.heap.size w w1) (hB : B ≤ w.heap.size) : Fr B b w w1 :=
 ⟨h.mono hB, fun k o ho _ _ => (h.block k (Array.getElem?_eq_some_iff.1 ho).1).trans ho⟩
theorem Fr.then {B b : Nat} {w w1 w2 : World} (h : Fr B b w w1) (hB : B ≤ w1.heap.size) (k : Below w1.heap.size w1 w2) : Fr B b w w2 := h.trans (Fr.of k hB)
theorem Fr.blk {B b x : Nat} {w w1 : World} (h : Fr B b w w1) {cs : Array Value} {e : TypeId} {fr : Nat × Nat} (hx : w.heap[x]? = some (.cells cs e fr)) (hb : x ≠ b) (he : e ≠ 5) : w1.heap[x]? = some (.cells cs e fr) :=
 h.oth x _ hx (fun e => hb (by injection e)) (fun c fz h => by injection h with _ h2 _; exact he h2)
theorem bd_byte (B b N : Nat) (c : Int) (u : UInt8) (w : World) (h : Bd w B b N) (hc : c = (u.toNat : Int)) (hN : N ≤ 1000000) (hB : B ≤ w.heap.size) :
 Calls Tryz.prog 172 #[.pointer (some ⟨b, 0, none⟩), .int .u8 c] w fun e w' => e = .returned .nilIface ∧ Bd w' B b (N + 1) ∧ Fr B b w w' := by
 obtain ⟨l, hl, hn⟩ := h
 subst hc
 refine (show Calls Tryz.prog 172 #[.pointer (some ⟨b, 0, none⟩), .int .u8 (u.toNat : Int)] w fun e w' => e = .returned .nilIface ∧ (Lib.BuilderAtF 299 5 B b (.pointer (some ⟨b, 0, none⟩)) (Lib.byteCells l ++ [.int .u8 u.toNat]) w' ∧ Below B w w' ∧ Lib.OthersKept 5 (some b) w w') from
  Any.Builder_WriteByte_k Tryz.laysB167 Tryz.Builder_ExtraB B b (Lib.byteCells l) u.toNat w (.inr hl) (by simp [Lib.byteCells]; omega) hB).mono ?_
 rintro e w' ⟨he, h1, h2, h3⟩
 exact ⟨he, ⟨l ++ [u], by simpa [Lib.byteCells] using h1, by simp; omega⟩, h2, h3⟩
theorem bd_str (B b N : Nat) (s : ByteArray) (w : World) (h : Bd w B b N) (hN : N + s.size ≤ 1000000) (hB : B ≤ w.heap.size) :
 Calls Tryz.prog 183 #[.pointer (some ⟨b, 0, none⟩), .string s] w fun e w' => e = .returned (.tuple #[.int .i64 s.size, .nilIface]) ∧ Bd w' B b (N + s.size) ∧ Fr B b w w' := by
 obtain ⟨l, hl, hn⟩ := h
 refine (show Calls Tryz.prog 183 #[.pointer (some ⟨b, 0, none⟩), .string s] w fun e w' => e = .returned (.tuple #[.int .i64 s.size, .nilIface]) ∧ (Lib.BuilderAtF 299 5 B b (.pointer (some ⟨b, 0, none⟩)) (Lib.byteCells l ++ Lib.strCells s) w' ∧ Below B w w' ∧ Lib.OthersKept 5 (some b) w w') from
  Any.Builder_WriteString_k Tryz.laysB166 Tryz.Builder_ExtraB B b (Lib.byteCells l) s w (.inr hl) (by simp [Lib.byteCells]; omega) hB).mono ?_
 rintro e w' ⟨he, h1, h2, h3⟩
 exact ⟨he, ⟨l ++ s.data.toList, by simpa [Lib.byteCells, Lib.strCells] using h1, by simp; omega⟩, h2, h3⟩
theorem Bd.mono {w : World} {B b N N' : Nat} (h : Bd w B b N) (hN : N ≤ N') : Bd w B b N' := by
 obtain ⟨l, h1, h2⟩ := h
 exact ⟨l, h1, by omega⟩
theorem decode_ge1 (s : ByteArray) (h : s.size ≠ 0) : 1 ≤ (Lib.decodeGo s).2 := by
 unfold Lib.decodeGo
 rw [if_neg h]
 exact Lib.decode_width_pos s 0 (by omega)
theorem utf8_below {w w' : World} (h : Lib.Utf8Tabs 3 4 w) {B : Nat} (hB : 4 < B) (hb : Below B w w') : Lib.Utf8Tabs 3 4 w' :=
 ⟨fun c hc => (hb.cell (p := ⟨3, c, none⟩) (by show 3 < B; omega)).trans (h.1 c hc), fun i hi => ⟨(hb.cell (p := ⟨4, 2 * i, none⟩) hB).trans (h.2 i hi).1, (hb.cell (p := ⟨4, 2 * i + 1, none⟩) hB).trans (h.2 i hi).2⟩⟩
theorem ownF_of_block {w w' : World} {B size n : Nat} {v : Value} {e : TypeId} {xs : List Value} (h : w.ownsRowF B e size v n xs) (hb : Below w.heap.size w w') : w'.ownsRowF B e size v n xs := by
 refine ⟨h.1, ?_⟩
 rcases h.2 with h1 | ⟨g, cap, cur, fz, rfl, hB, hh, rest⟩
 · exact .inl h1
 · exact .inr ⟨g, cap, cur, fz, rfl, hB, (hb.block g (Array.getElem?_eq_some_iff.1 hh).1).trans hh, rest⟩
theorem Bd.below {w w' : World} {B b N : Nat} (h : Bd w B b N) (hb : Below w.heap.size w w') : Bd w' B b N := by
 obtain ⟨l, ⟨h1, v, h2, h3, h4⟩, h5⟩ := h
 exact ⟨l, ⟨h1, v, (hb.block b (Array.getElem?_eq_some_iff.1 h2).1).trans h2, ownF_of_block h3 hb, h4⟩, h5⟩
set_option maxRecDepth 100000 in
set_option maxHeartbeats 4000000 in
theorem c173 (B b N : Nat) (s : ByteArray) (w : World) (h : Bd w B b N) (hs : s.size ≤ 100) (hN : N ≤ 100000) (hB : B ≤ w.heap.size) (hT : Lib.Utf8Tabs 3 4 w) (hT4 : 4 < B ∧ 4 < w.heap.size) :
 Calls Tryz.prog 173 #[.pointer (some ⟨b, 0, none⟩), .string s] w fun e w' => e = .returned (.tuple #[]) ∧ Bd w' B b (N + 700) ∧ Fr B b w w' := by
 have C0 := Lib.hid (bd_byte B b N 34 34 w h rfl (by omega) hB)
 have HT := Lib.hid hT
 have HT4 := Lib.hid hT4
 clear h hT hT4
 go_enter Tryz.func173, Tryz.ntmps173
 go_upto_region 3 with (go_at_call 172; refine C0.out.mono ?_; rintro e w1 ⟨rfl, hd1, hb1⟩)
 have HD1 := Lib.hid hd1
 have HB1 := Lib.hid hb1
 clear hd1 hb1
 go_loopw [4, 5, 6, 7, 8] (fun s4 s5 _ _ _ wr => ∃ st i : Nat, st ≤ i ∧ i ≤ s.size ∧ s4 = .int .i64 st ∧ s5 = .int .i64 i ∧ Bd wr B b (N + 1 + 6 * st) ∧ Fr B b w wr) (fun _ s5 _ _ _ _ => s.size - (intOf s5).toNat)
 case atStart => exact ⟨0, 0, Nat.le_refl _, Nat.zero_le _, rfl, rfl, HD1.out, HB1.out⟩
 case round => (
 obtain ⟨st, i, hst, hi, rfl, rfl, hd, hb⟩ := hrel
 obtain ⟨wo, rfl⟩ : ∃ wo : World, wo = wr := ⟨_, rfl⟩
 have HD := Lib.hid hd
 have HBW := Lib.hid hb
 have hbs := hb.size
 clear hd hb
 by_cases hlt : i < s.size
 · (
 have i0 : (0 : Int) ≤ (i : Int) := by omega
 have i1 : (i : Int) < (s.size : Int) := by omega
 have i2 : (st : Int) ≤ (i : Int) := by omega
 have i3 : (0 : Int) ≤ (st : Int) := by omega
 have i4 : (i : Int) ≤ (s.size : Int) := by omega
 go_upto_region 5 with fail
 generalize s[i] = cb
 have cb0 : (0 : Int) ≤ (cb.toNat : Int) := by omega
 have HE : Hid ((s.extract st i).size = i - st) := Lib.hid (by rw [ByteArray.size_extract]; omega)
 by_cases hc : cb.toNat < 128
 · (
 have c1 : (cb.toNat : Int) < 128 := by omega
 go_upto_region 6 with fail
 go_cut [6, 29] from 11 to 173 (fun c p wx => c = .int .u8 cb.toNat ∧ ∃ P : Bool, p = .bool P ∧ wx = wo)
 case first => (
 as_aux_lemma => (
 go_wp2_with fail
 all_goals go_meet
 all_goals exact ⟨by first | rfl | simp_all, _, rfl, rfl⟩))
 case rest => (
 obtain ⟨rfl, P, rfl, rfl⟩ := hcut
 obtain ⟨wo, rfl⟩ : ∃ wo : World, wo = wc := ⟨_, rfl⟩
 cases P
 case true => (
 as_aux_lemma => (
 go_wp2_with fail
 go_roundw
 case rel => exact ⟨st, i + 1, by omega, by omega, rfl, by go_num, HD.out, HBW.out⟩
 case measure => simp [intOf]; omega))
 case false => (
 as_aux_lemma => (
 go_upto_if 34 with fail
 go_cut [] from 11 to 173 (fun wx => Bd wx B b (N + 1 + 6 * st + (i - st)) ∧ Fr B b w wx)
 case first => (
 as_aux_lemma => (
 by_cases hsi : st < i
 · (
 have j1 : (st : Int) < (i : Int) := by omega
 go_wp2_with (go_at_call 183; (with_reducible refine (bd_str B b _ _ _ HD.out (by have := HE.out; omega) (by have := HBW.out.size; omega)).mono ?_); rintro e w2 ⟨rfl, hd2, hb2⟩; have HD := Lib.hid (hd2.mono (show _ ≤ N + 1 + 6 * st + (i - st) by have := HE.out; omega)); have HBW := Lib.hid (HBW.out.trans hb2))
 go_meet
 exact ⟨HD.out, HBW.out⟩)
 · (
 have j1 : ¬ (st : Int) < (i : Int) := by omega
 have j2 : (i : Int) ≤ (st : Int) := by omega
 go_wp2_with fail
 go_meet
 exact ⟨HD.out.mono (by omega), HBW.out⟩)))
 case rest => (
 obtain ⟨hd', hb'⟩ := hcut
 obtain ⟨wk, rfl⟩ : ∃ wk : World, wk = wc := ⟨_, rfl⟩
 replace HD := Lib.hid hd'
 replace HBW := Lib.hid hb'
 clear hd' hb'
 have c2 : (cb.toNat : Int) / 16 < 16 := by omega
 have c3 : (0 : Int) ≤ (cb.toNat : Int) / 16 := by omega
 as_aux_lemma => (
 go_wp2_with (first | (go_at_call 172; (with_reducible refine (bd_byte B b _ 92 92 _ HD.out rfl (by first | omega | (simp [ByteArray.size]; omega)) (by have := HBW.out.size; omega)).mono ?_); rintro e w2 ⟨rfl, hd2, hb2⟩; have HD := Lib.hid hd2; have HBW := Lib.hid (HBW.out.trans hb2); clear hd2 hb2) | (go_at_call 172; (with_reducible refine (bd_byte B b _ _ _ _ HD.out rfl (by first | omega | (simp [ByteArray.size]; omega)) (by have := HBW.out.size; omega)).mono ?_); rintro e w2 ⟨rfl, hd2, hb2⟩; have HD := Lib.hid hd2; have HBW := Lib.hid (HBW.out.trans hb2); clear hd2 hb2) | (go_at_call 183; (with_reducible refine (bd_str B b _ _ _ HD.out (by first | omega | (simp [ByteArray.size]; omega)) (by have := HBW.out.size; omega)).mono ?_); rintro e w2 ⟨rfl, hd2, hb2⟩; have HD := Lib.hid hd2; have HBW := Lib.hid (HBW.out.trans hb2); clear hd2 hb2))
 all_goals go_roundw
 all_goals first
  | exact ⟨i + 1, i + 1, Nat.le_refl _, by omega, by go_num, by go_num, HD.out.mono (by first | omega | (simp [ByteArray.size]; omega)), HBW.out⟩
  | (simp [intOf]; omega)))))))
 · (
 have c1 : ¬ (cb.toNat : Int) < 128 := by omega
 have c2 : (128 : Int) ≤ (cb.toNat : Int) := by omega
 have hx0 : (s.extract i s.size).size = s.size - i := by rw [ByteArray.size_extract]; omega
 have hg1 := decode_ge1 (s.extract i s.size) (by omega)
 have hg2 := Lib.decodeGo_le_size (s.extract i s.size)
 have C184 := Lib.hid (Tryz.utf8_DecodeRuneInString (s.extract i s.size) wo (utf8_below HT.out HT4.out.1 HBW.out.bel))
 generalize hpr : Lib.decodeGo (s.extract i s.size) = pr at hg1 hg2 C184
 rw [hx0] at hg2
 have d0 : (0 : Int) ≤ (pr.2 : Int) := by omega
 clear hx0 hpr
 go_upto_region 31 with (go_at_call 184; refine C184.out.mono ?_; rintro e w2 ⟨rfl, hb2⟩)
 replace HD := Lib.hid (HD.out.below hb2)
 replace HBW := Lib.hid (Fr.then HBW.out (Nat.le_trans hB HBW.out.size) hb2)
 obtain ⟨wk2, rfl⟩ : ∃ wk : World, wk = w2 := ⟨_, rfl⟩
 clear hb2 C184
 have d1 : (i : Int) + (pr.2 : Int) ≤ (s.size : Int) := by omega
 as_aux_lemma => (
 go_cut [7, 8, 118] from 11 to 173 (fun r z p wx => r = .int .i32 pr.1 ∧ z = .int .i64 pr.2 ∧ ∃ P : Bool, p = .bool P ∧ wx = wk2)
 case first => (
 as_aux_lemma => (
 go_wp2_with fail
 all_goals go_meet
 all_goals exact ⟨by first | rfl | simp_all, by first | rfl | simp_all, _, rfl, rfl⟩))
 case rest => (
 obtain ⟨rfl, rfl, P, rfl, rfl⟩ := hcut
 obtain ⟨wk3, rfl⟩ : ∃ wk : World, wk = wc := ⟨_, rfl⟩
 cases P
 case true => (
 as_aux_lemma => (
 go_upto_if 121 with fail
 go_cut [] from 11 to 173 (fun wx => Bd wx B b (N + 1 + 6 * st + (i - st)) ∧ Fr B b w wx)
 case first => (
 as_aux_lemma => (
 by_cases hsi : st < i
 · (
 have j1 : (st : Int) < (i : Int) := by omega
 go_wp2_with (go_at_call 183; (with_reducible refine (bd_str B b _ _ _ HD.out (by have := HE.out; omega) (by have := HBW.out.size; omega)).mono ?_); rintro e w2 ⟨rfl, hd2, hb2⟩; have HD := Lib.hid (hd2.mono (show _ ≤ N + 1 + 6 * st + (i - st) by have := HE.out; omega)); have HBW := Lib.hid (HBW.out.trans hb2))
 go_meet
 exact ⟨HD.out, HBW.out⟩)
 · (
 have j1 : ¬ (st : Int) < (i : Int) := by omega
 have j2 : (i : Int) ≤ (st : Int) := by omega
 go_wp2_with fail
 go_meet
 exact ⟨HD.out.mono (by omega), HBW.out⟩)))
 case rest => (
 obtain ⟨hd', hb'⟩ := hcut
 obtain ⟨wk, rfl⟩ : ∃ wk : World, wk = wc := ⟨_, rfl⟩
 replace HD := Lib.hid hd'
 replace HBW := Lib.hid hb'
 clear hd' hb'
 as_aux_lemma => (
 go_wp2_with (first | (go_at_call 172; (with_reducible refine (bd_byte B b _ 92 92 _ HD.out rfl (by first | omega | (simp [ByteArray.size]; omega)) (by have := HBW.out.size; omega)).mono ?_); rintro e w2 ⟨rfl, hd2, hb2⟩; have HD := Lib.hid hd2; have HBW := Lib.hid (HBW.out.trans hb2); clear hd2 hb2) | (go_at_call 172; (with_reducible refine (bd_byte B b _ _ _ _ HD.out rfl (by first | omega | (simp [ByteArray.size]; omega)) (by have := HBW.out.size; omega)).mono ?_); rintro e w2 ⟨rfl, hd2, hb2⟩; have HD := Lib.hid hd2; have HBW := Lib.hid (HBW.out.trans hb2); clear hd2 hb2) | (go_at_call 183; (with_reducible refine (bd_str B b _ _ _ HD.out (by first | omega | (simp [ByteArray.size]; omega)) (by have := HBW.out.size; omega)).mono ?_); rintro e w2 ⟨rfl, hd2, hb2⟩; have HD := Lib.hid hd2; have HBW := Lib.hid (HBW.out.trans hb2); clear hd2 hb2))
 all_goals go_roundw
 all_goals first
  | exact ⟨i + 1, i + 1, Nat.le_refl _, by omega, by go_num, by go_num, HD.out.mono (by first | omega | (simp [ByteArray.size]; omega)), HBW.out⟩
  | (simp [intOf]; omega)))))
 case false => (
 as_aux_lemma => (
 go_upto_region 37 with fail
 go_cut [7, 8, 144] from 11 to 173 (fun r z p wx => r = .int .i32 pr.1 ∧ z = .int .i64 pr.2 ∧ ∃ Q : Bool, p = .bool Q ∧ (Q = true → (pr.1 : Int) = 8232 ∨ (pr.1 : Int) = 8233) ∧ wx = wk3)
 case first => (
 as_aux_lemma => (
 go_wp2_with fail
 all_goals go_meet
 all_goals exact ⟨by first | rfl | simp_all, by first | rfl | simp_all, _, rfl, by first | (intro h; cases h; done) | (intro _; omega) | (intro h; simp at h; omega), rfl⟩))
 case rest => (
 obtain ⟨rfl, rfl, Q, rfl, hq, rfl⟩ := hcut
 obtain ⟨wk4, rfl⟩ : ∃ wk : World, wk = wc := ⟨_, rfl⟩
 cases Q
 case true => (
 as_aux_lemma => (
 go_upto_if 147 with fail
 go_cut [] from 11 to 173 (fun wx => Bd wx B b (N + 1 + 6 * st + (i - st)) ∧ Fr B b w wx)
 case first => (
 as_aux_lemma => (
 by_cases hsi : st < i
 · (
 have j1 : (st : Int) < (i : Int) := by omega
 go_wp2_with (go_at_call 183; (with_reducible refine (bd_str B b _ _ _ HD.out (by have := HE.out; omega) (by have := HBW.out.size; omega)).mono ?_); rintro e w2 ⟨rfl, hd2, hb2⟩; have HD := Lib.hid (hd2.mono (show _ ≤ N + 1 + 6 * st + (i - st) by have := HE.out; omega)); have HBW := Lib.hid (HBW.out.trans hb2))
 go_meet
 exact ⟨HD.out, HBW.out⟩)
 · (
 have j1 : ¬ (st : Int) < (i : Int) := by omega
 have j2 : (i : Int) ≤ (st : Int) := by omega
 go_wp2_with fail
 go_meet
 exact ⟨HD.out.mono (by omega), HBW.out⟩)))
 case rest => (
 obtain ⟨hd', hb'⟩ := hcut
 obtain ⟨wk, rfl⟩ : ∃ wk : World, wk = wc := ⟨_, rfl⟩
 replace HD := Lib.hid hd'
 replace HBW := Lib.hid hb'
 clear hd' hb'
 rcases hq rfl with hq | hq
 all_goals
  rw [hq]
  clear hq
  as_aux_lemma => (
  go_wp2_with (first | (go_at_call 172; (with_reducible refine (bd_byte B b _ 92 92 _ HD.out rfl (by first | omega | (simp [ByteArray.size]; omega)) (by have := HBW.out.size; omega)).mono ?_); rintro e w2 ⟨rfl, hd2, hb2⟩; have HD := Lib.hid hd2; have HBW := Lib.hid (HBW.out.trans hb2); clear hd2 hb2) | (go_at_call 172; (with_reducible refine (bd_byte B b _ _ _ _ HD.out rfl (by first | omega | (simp [ByteArray.size]; omega)) (by have := HBW.out.size; omega)).mono ?_); rintro e w2 ⟨rfl, hd2, hb2⟩; have HD := Lib.hid hd2; have HBW := Lib.hid (HBW.out.trans hb2); clear hd2 hb2) | (go_at_call 183; (with_reducible refine (bd_str B b _ _ _ HD.out (by first | omega | (simp [ByteArray.size]; omega)) (by have := HBW.out.size; omega)).mono ?_); rintro e w2 ⟨rfl, hd2, hb2⟩; have HD := Lib.hid hd2; have HBW := Lib.hid (HBW.out.trans hb2); clear hd2 hb2))
  all_goals go_roundw
  all_goals first
   | exact ⟨i + pr.2, i + pr.2, Nat.le_refl _, by omega, by go_num, by go_num, HD.out.mono (by first | omega | (simp [ByteArray.size]; omega)), HBW.out⟩
   | (simp [intOf]; omega)))))
 case false => (
 as_aux_lemma => (
 go_wp2_with fail
 go_roundw
 case rel => exact ⟨st, i + pr.2, by omega, by omega, rfl, by go_num, HD.out, HBW.out⟩
 case measure => simp [intOf]; omega)))))))))
 · (
 have hin : i = s.size := by omega
 subst hin
 have HE : Hid ((s.extract st s.size).size = s.size - st) := Lib.hid (by rw [ByteArray.size_extract]; omega)
 have i3 : (0 : Int) ≤ (st : Int) := by omega
 have i4 : (st : Int) ≤ (s.size : Int) := by omega
 by_cases hlt2 : st < s.size
 · (
 have j1 : (st : Int) < (s.size : Int) := by omega
 go_wp2_with (first | (go_at_call 183; (with_reducible refine (bd_str B b _ _ _ HD.out (by have := HE.out; omega) (by have := HBW.out.size; omega)).mono ?_); rintro e w2 ⟨rfl, hd2, hb2⟩; have HD := Lib.hid (hd2.mono (show _ ≤ N + 690 by have := HE.out; omega)); have HBW := Lib.hid (HBW.out.trans hb2); clear hd2 hb2) | (go_at_call 172; (with_reducible refine (bd_byte B b _ 34 34 _ HD.out rfl (by first | omega | (simp [ByteArray.size]; omega)) (by have := HBW.out.size; omega)).mono ?_); rintro e w2 ⟨rfl, hd2, hb2⟩; have HD := Lib.hid hd2; have HBW := Lib.hid (HBW.out.trans hb2); clear hd2 hb2))
 go_end0
 exact ⟨rfl, HD.out.mono (by omega), HBW.out⟩)
 · (
 have j1 : ¬ (st : Int) < (s.size : Int) := by omega
 go_wp2_with (go_at_call 172; (with_reducible refine (bd_byte B b _ 34 34 _ HD.out rfl (by first | omega | (simp [ByteArray.size]; omega)) (by have := HBW.out.size; omega)).mono ?_); rintro e w2 ⟨rfl, hd2, hb2⟩; have HD := Lib.hid hd2; have HBW := Lib.hid (HBW.out.trans hb2); clear hd2 hb2)
 go_end0
 exact ⟨rfl, HD.out.mono (by omega), HBW.out⟩)))
end Go.Proofs.YtlpddogcnpokfaaGreatDoor
