/- Contracts of functions of the program, for the comparison of aggregations (part KA8). -/
import Derived.Test.YtlpddogcnpokfaaGreatDoorKA7
import Derived.Laws.ResultCell
import Derived.Sort.LotA
set_option linter.all false
namespace Go.Proofs.YtlpddogcnpokfaaGreatDoor
open Go.RowKit
section
open Go.Sort
def avalanche (h : Int) : Int :=
 let a := IntKind.u64.wrap (bits BinOp.xor IntKind.u64 h (h / 2 ^ 33) * 14029467366897019727)
 let b := IntKind.u64.wrap (bits BinOp.xor IntKind.u64 a (a / 2 ^ 29) * 1609587929392839161)
 bits BinOp.xor IntKind.u64 b (b / 2 ^ 32)
def stripeEnd (v : Int × Int × Int × Int) : Int :=
 hmerge (hmerge (hmerge (hmerge (IntKind.u64.wrap (IntKind.u64.wrap (IntKind.u64.wrap (rotl v.1 1 + rotl v.2.1 7) + rotl v.2.2.1 12) + rotl v.2.2.2 18)) v.1) v.2.1) v.2.2.1) v.2.2.2
def tail4 (p : Int × List UInt8) : Int × List UInt8 :=
 if 4 ≤ p.2.length then (IntKind.u64.wrap (IntKind.u64.wrap (rotl (bits BinOp.xor IntKind.u64 p.1 (IntKind.u64.wrap (IntKind.u64.wrap (le 4 p.2) * 11400714785074694791))) 23 * 14029467366897019727) + 1609587929392839161), p.2.drop 4) else p
def v0 : Int × Int × Int × Int := (6983438078262162902, 14029467366897019727, 0, 7046029288634856825)
def head32 (bs : List UInt8) : Int × List UInt8 :=
 if 32 ≤ bs.length then (stripeEnd (strip bs.length v0 bs).1, (strip bs.length v0 bs).2) else (2870177450012600261, bs)
def sum64 (bs : List UInt8) : Int :=
 let p := head32 bs
 let q := tail8 bs.length (IntKind.u64.wrap (p.1 + bs.length)) p.2
 let r := tail4 q
 avalanche (r.2.foldl tail1 r.1)
theorem br_of_own {w : World} {B : Nat} {A : Option Addr} {c : Nat} {bs : List UInt8} (h : w.ownsRow B 5 1 (.slice A bs.length c) bs.length (bs.map byteV)) : BR w A c bs := by
 rcases h.2 with ⟨h1, h2⟩ | ⟨g, cap, cur, h1, hb, hh, h3, h4, rest⟩
 · injection h1 with h1 h2' h3'
   exact ⟨by omega, by omega, .inl h2⟩
 · (
 injection h1 with h1 h2' h3'
 subst h1 h3'
 refine ⟨h3, by simpa [maxLen] using h4, .inr ⟨g, 0, rfl, fun j u hj => ?_⟩⟩
 have := h.cells (g := g) rfl j u hj
 rw [Addr.add_mid] at this
 exact this)
def slen : Value → Nat
 | .slice _ n _ => n
 | _ => 0
theorem strip_done (m : Nat) (v : Int × Int × Int × Int) (bs : List UInt8) (h : bs.length < 32) : strip m v bs = (v, bs) := by
 cases m with
 | zero => rfl
 | succ m => rw [strip, if_neg (by omega)]
theorem strip_step (m : Nat) (v : Int × Int × Int × Int) (bs : List UInt8) (h : 32 ≤ bs.length) (hm : bs.length ≤ m) : strip m v bs = strip (m - 1) (hround v.1 (le 8 bs), hround v.2.1 (le 8 (bs.drop 8)), hround v.2.2.1 (le 8 (bs.drop 16)), hround v.2.2.2 (le 8 (bs.drop 24))) (bs.drop 32) := by
 cases m with
 | zero => omega
 | succ m => rw [strip, if_pos h]; rfl
theorem tail8_done (m : Nat) (h : Int) (bs : List UInt8) (hl : bs.length < 8) : tail8 m h bs = (h, bs) := by
 cases m with
 | zero => rfl
 | succ m => rw [tail8, if_neg (by omega)]
theorem tail8_step (m : Nat) (h : Int) (bs : List UInt8) (hl : 8 ≤ bs.length) (hm : bs.length ≤ m) : tail8 m h bs = tail8 (m - 1) (IntKind.u64.wrap (IntKind.u64.wrap (rotl (bits BinOp.xor IntKind.u64 h (hround 0 (le 8 bs))) 27 * 11400714785074694791) + 9650029242287828579)) (bs.drop 8) := by
 cases m with
 | zero => omega
 | succ m => rw [tail8, if_pos hl]; rfl
structure L1 (bs : List UInt8) (w : World) (s3 s7 s8 s9 s10 : Value) (wr : World) : Prop where
 ex : ∃ (m : Nat) (v : Int × Int × Int × Int) (cur : List UInt8), s7 = .int .u64 v.1 ∧ s8 = .int .u64 v.2.1 ∧ s9 = .int .u64 v.2.2.1 ∧ s10 = .int .u64 v.2.2.2 ∧ (∃ A c, s3 = .slice A cur.length c ∧ BR wr A c cur ∧ Below w.heap.size w wr) ∧ strip bs.length v0 bs = strip m v cur ∧ cur.length ≤ m ∧ cur.length ≤ bs.length
structure L2 (T : Int × List UInt8) (N : Nat) (w : World) (s3 s4 : Value) (wr : World) : Prop where
 ex : ∃ (m : Nat) (h : Int) (cur : List UInt8) (A : Option Addr) (c : Nat), s3 = .slice A cur.length c ∧ s4 = .int .u64 h ∧ BR wr A c cur ∧ Below w.heap.size w wr ∧ T = tail8 m h cur ∧ cur.length ≤ m ∧ cur.length ≤ N
/-- What slot 3 holds: a slice of the bytes that are left. -/
def Left (w wr : World) (v : Value) (cur : List UInt8) : Prop := ∃ A c, v = .slice A cur.length c ∧ BR wr A c cur ∧ Below w.heap.size w wr
set_option maxHeartbeats 4000000 in
set_option maxRecDepth 100000 in
theorem c138 (B q : Nat) (bs : List UInt8) (w : World) (h : Dig w B q bs) (hl : bs.length ≤ 1000000) :
 Calls Tryz.prog 138 #[.pointer (some ⟨q, 0, none⟩)] w fun e w' => e = .returned (.int .u64 (sum64 bs)) ∧ Below w.heap.size w w' := by
 obtain ⟨hBq, v, hq, hown⟩ := h
 obtain ⟨A, c, rfl⟩ := own_slice hown
 have hbr := br_of_own hown
 have hc := blk_cell hq 0 _ rfl
 have HC := Lib.hid hc
 have HBR := Lib.hid hbr
 clear hown hq hbr
 obtain ⟨D, hD⟩ : ∃ D : Bool, decide ((32 : Int) ≤ (bs.length : Int)) = D := ⟨_, rfl⟩
 go_enter Tryz.func138, Tryz.ntmps138
 go_upto_if 19 with fail
 have HD := Lib.hid hD
 clear hD
 go_cut [3, 4, 5, 6, 7, 8, 9, 10] from 13 (fun s3 s4 s5 s6 s7 s8 s9 s10 wx => s4 = .int .u64 (head32 bs).1 ∧ Left w wx s3 (head32 bs).2 ∧ (head32 bs).2.length ≤ bs.length)
 case first => (
 cases D
 case true => (
 have H32 : Hid (32 ≤ bs.length) := Lib.hid (by have := of_decide_eq_true HD.out; omega)
 clear HD
 go_upto_region 6 with fail
 go_loopw [3, 7, 8, 9, 10] (fun s3 s7 s8 s9 s10 wr => L1 bs w s3 s7 s8 s9 s10 wr) (fun s3 _ _ _ _ _ => slen s3)
 case atStart => exact ⟨⟨bs.length, v0, bs, rfl, rfl, rfl, rfl, ⟨_, _, rfl, HBR.out, Below.refl _ _⟩, rfl, Nat.le_refl _, Nat.le_refl _⟩⟩
 case round => (
 obtain ⟨m, v, cur, rfl, rfl, rfl, rfl, hleft, hst, hcm, hcl⟩ := hrel.ex
 obtain ⟨wo, rfl⟩ : ∃ wo : World, wo = wr := ⟨_, rfl⟩
 have HL := Lib.hid hleft
 have HST := Lib.hid hst
 obtain ⟨A1, cc, rfl, hbr, hbw⟩ := hleft
 clear hst
 by_cases h3 : 32 ≤ cur.length
 · (
 have f1 : (32 : Int) ≤ (cur.length : Int) := by omega
 obtain ⟨g, o, rfl, hby⟩ := hbr.at_ (by omega)
 have C1 := Lib.hid (c156 g o cur.length cc cur wo (by omega) (by omega) hby)
 have HBY := Lib.hid hby
 have HBW : Hid (Below wo.heap.size wo wo) := Lib.hid (Below.refl _ _)
 have hcc : cur.length ≤ cc := hbr.1
 have hcc2 := hbr.2.1
 clear hbr hby hbw
 go_upto_region 8 with (first
  | (go_at_call 156; refine C1.out.mono ?_; rintro e w1 ⟨rfl, hb1⟩; have HBW := Lib.hid hb1)
  | (go_at_call 155; refine (c155 _ _ _).mono ?_; rintro e w2 ⟨rfl, rfl⟩))
 have k8 : ¬ cc = 8 := by omega
 have k16 : ¬ cc = 16 := by omega
 have k24 : ¬ cc = 24 := by omega
 have b8 : (8 : Int) ≤ (cur.length : Int) := by omega
 have b16 : (16 : Int) ≤ (cur.length : Int) := by omega
 have b24 : (24 : Int) ≤ (cur.length : Int) := by omega
 have bcc : (cur.length : Int) ≤ (cc : Int) := by omega
 have CD8 := Lib.hid fun (W : World) (hW : Below wo.heap.size wo W) => c156 g (o + 8) (cur.length - 8) (cc - 8) (cur.drop 8) W (by omega) (by rw [List.length_drop]; omega) ((HBY.out.drop 8).keep hW)
 have CD16 := Lib.hid fun (W : World) (hW : Below wo.heap.size wo W) => c156 g (o + 16) (cur.length - 16) (cc - 16) (cur.drop 16) W (by omega) (by rw [List.length_drop]; omega) ((HBY.out.drop 16).keep hW)
 have CD24 := Lib.hid fun (W : World) (hW : Below wo.heap.size wo W) => c156 g (o + 24) (cur.length - 24) (cc - 24) (cur.drop 24) W (by omega) (by rw [List.length_drop]; omega) ((HBY.out.drop 24).keep hW)
 go_cut [8] from 26 to 53 (fun p wx => p = .int .u64 (hround v.2.1 (le 8 (cur.drop 8))) ∧ Below wo.heap.size wo wx)
 case first => (
 as_aux_lemma => (
 first
  | (go_region_held3 (fun w' => True) (exact trivial)
   (first
    | (go_at_call 156; (with_reducible refine (CD8.out _ (below_drew HBW.out)).mono ?_); rintro e w1 ⟨rfl, hb1⟩)
    | (go_at_call 155; refine (c155 _ _ _).mono ?_; rintro e w2 ⟨rfl, rfl⟩)))
  | fail
 go_wp2_with fail
 go_meet
 exact ⟨rfl, below_then (below_drew HBW.out) (below_drew HBW.out).size hb1⟩))
 case rest => (
 obtain ⟨rfl, hbx⟩ := hcut
 have HBW := Lib.hid hbx
 obtain ⟨wk8, rfl⟩ : ∃ wk8 : World, wk8 = wc := ⟨_, rfl⟩
 clear hbx
 go_upto_region 9 with fail
 go_cut [9] from 26 to 53 (fun p wx => p = .int .u64 (hround v.2.2.1 (le 8 (cur.drop 16))) ∧ Below wo.heap.size wo wx)
 case first => (
 as_aux_lemma => (
 first
  | (go_region_held3 (fun w' => True) (exact trivial)
   (first
    | (go_at_call 156; (with_reducible refine (CD16.out _ (below_drew HBW.out)).mono ?_); rintro e w1 ⟨rfl, hb1⟩)
    | (go_at_call 155; refine (c155 _ _ _).mono ?_; rintro e w2 ⟨rfl, rfl⟩)))
  | fail
 go_wp2_with fail
 go_meet
 exact ⟨rfl, below_then (below_drew HBW.out) (below_drew HBW.out).size hb1⟩))
 case rest => (
 obtain ⟨rfl, hbx⟩ := hcut
 have HBW := Lib.hid hbx
 obtain ⟨wk16, rfl⟩ : ∃ wk16 : World, wk16 = wc := ⟨_, rfl⟩
 clear hbx
 go_upto_region 10 with fail
 go_cut [10] from 26 to 53 (fun p wx => p = .int .u64 (hround v.2.2.2 (le 8 (cur.drop 24))) ∧ Below wo.heap.size wo wx)
 case first => (
 as_aux_lemma => (
 first
  | (go_region_held3 (fun w' => True) (exact trivial)
   (first
    | (go_at_call 156; (with_reducible refine (CD24.out _ (below_drew HBW.out)).mono ?_); rintro e w1 ⟨rfl, hb1⟩)
    | (go_at_call 155; refine (c155 _ _ _).mono ?_; rintro e w2 ⟨rfl, rfl⟩)))
  | fail
 go_wp2_with fail
 go_meet
 exact ⟨rfl, below_then (below_drew HBW.out) (below_drew HBW.out).size hb1⟩))
 case rest => (
 obtain ⟨rfl, hbx⟩ := hcut
 have HBW := Lib.hid hbx
 obtain ⟨wk24, rfl⟩ : ∃ wk24 : World, wk24 = wc := ⟨_, rfl⟩
 clear hbx
 have hst2 := strip_step m v cur h3 hcm
 have HL' := Lib.hid HL.out
 have hdr := (HBY.out.keep HBW.out).drop 32
 have hlen : (cur.drop 32).length = cur.length - 32 := List.length_drop ..
 have HDR := Lib.hid hdr
 have HLN := Lib.hid hlen
 have HS2 := Lib.hid hst2
 clear hdr hlen hst2
 by_cases k32 : cc = 32
 · (
 go_wp2_with fail
 go_roundw
 case rel => (
 refine ⟨m - 1, (hround v.1 (le 8 cur), hround v.2.1 (le 8 (cur.drop 8)), hround v.2.2.1 (le 8 (cur.drop 16)), hround v.2.2.2 (le 8 (cur.drop 24))), cur.drop 32, rfl, rfl, rfl, rfl, ⟨some ⟨g, o, none⟩, 0, by rw [HLN.out], ⟨by rw [HLN.out]; omega, by omega, .inl (by rw [HLN.out]; omega)⟩, ?_⟩, by rw [HST.out, HS2.out], by rw [HLN.out]; omega, by rw [HLN.out]; omega⟩
 obtain ⟨_, _, _, _, hbw0⟩ := HL.out
 exact below_then hbw0 hbw0.size HBW.out)
 case measure => simp [slen]; omega)
 · (
 go_wp2_with fail
 go_roundw
 case rel => (
 refine ⟨m - 1, (hround v.1 (le 8 cur), hround v.2.1 (le 8 (cur.drop 8)), hround v.2.2.1 (le 8 (cur.drop 16)), hround v.2.2.2 (le 8 (cur.drop 24))), cur.drop 32, rfl, rfl, rfl, rfl, ⟨some ⟨g, o + 32, none⟩, cc - 32, by rw [HLN.out], ⟨by rw [HLN.out]; omega, by omega, .inr ⟨_, _, rfl, HDR.out⟩⟩, ?_⟩, by rw [HST.out, HS2.out], by rw [HLN.out]; omega, by rw [HLN.out]; omega⟩
 obtain ⟨_, _, _, _, hbw0⟩ := HL.out
 exact below_then hbw0 hbw0.size HBW.out)
 case measure => simp [slen]; omega)))))
 · (
 have f1 : ¬ (32 : Int) ≤ (cur.length : Int) := by omega
 have f2 : (cur.length : Int) < (32 : Int) := by omega
 have hd := strip_done m v cur (by omega)
 go_wp2_with (first
  | (go_at_call 157; refine (c157 _ _ (by omega) _).mono ?_; rintro e w2 ⟨rfl, rfl⟩)
  | (go_at_call 158; refine (c158 _ _ _).mono ?_; rintro e w2 ⟨rfl, rfl⟩))
 go_meet
 have he : head32 bs = (stripeEnd v, cur) := by unfold head32; rw [if_pos H32.out, HST.out, hd]
 rw [he]
 exact ⟨rfl, HL.out, hcl⟩)))
 case false => (
 have h32 : ¬ 32 ≤ bs.length := by have := of_decide_eq_false HD.out; omega
 clear HD
 go_wp2_with fail
 go_meet
 have : head32 bs = (2870177450012600261, bs) := by unfold head32; rw [if_neg h32]
 rw [this]
 exact ⟨rfl, ⟨_, _, rfl, HBR.out, Below.refl _ _⟩, Nat.le_refl _⟩))
 case rest => (
 obtain ⟨rfl, hleft, hlen⟩ := hcut
 obtain ⟨wx0, rfl⟩ : ∃ wx0 : World, wx0 = wc := ⟨_, rfl⟩
 obtain ⟨A1, c1, rfl, hbr, hbw⟩ := hleft
 have hc := cellk HC.out hbw
 obtain ⟨P, hP⟩ : ∃ P, P = head32 bs := ⟨_, rfl⟩
 rw [← hP] at hbr hlen
 have hcl := hbr.1
 have HP := Lib.hid hP
 have HBR1 := Lib.hid hbr
 have HBW := Lib.hid hbw
 have HLEN := Lib.hid hlen
 rw [← hP]
 clear hbr hbw hlen hP HBR
 as_aux_lemma => (
 go_upto_region 16 with fail
 obtain ⟨T, hT⟩ : ∃ T, T = tail8 bs.length (IntKind.u64.wrap (P.1 + bs.length)) P.2 := ⟨_, rfl⟩
 have HT := Lib.hid hT
 clear hT
 go_loopw [3, 4] (fun s3 s4 wr => L2 T bs.length w s3 s4 wr) (fun s3 _ _ => slen s3)
 case atStart => exact ⟨⟨bs.length, _, P.2, _, _, rfl, rfl, HBR1.out, HBW.out, HT.out, HLEN.out, HLEN.out⟩⟩
 case round => (
 obtain ⟨m, h, cur, A2, cc, rfl, rfl, hbr, hbw, hst, hcm, hcn⟩ := hrel.ex
 obtain ⟨wo, rfl⟩ : ∃ wo : World, wo = wr := ⟨_, rfl⟩
 clear hrel
 have HBR2 := Lib.hid hbr
 have HBW2 := Lib.hid hbw
 have HST := Lib.hid hst
 have hcc : cur.length ≤ cc := hbr.1
 have hcc2 := hbr.2.1
 by_cases h8 : 8 ≤ cur.length
 · (
 have f1 : (8 : Int) ≤ (cur.length : Int) := by omega
 obtain ⟨g, o, rfl, hby⟩ := hbr.at_ (by omega)
 have C1 := Lib.hid (c156 g o cur.length cc cur wo (by omega) (by omega) hby)
 have hst2 := tail8_step m h cur h8 hcm
 have HS2 := Lib.hid hst2
 have HBY := Lib.hid hby
 have hlen : (cur.drop 8).length = cur.length - 8 := List.length_drop ..
 have HLN := Lib.hid hlen
 have bcc : (cur.length : Int) ≤ (cc : Int) := by omega
 clear hbr hbw hst hst2 hby hlen
 go_upto_region 17 with (first
  | (go_at_call 156; refine C1.out.mono ?_; rintro e w1 ⟨rfl, hb1⟩)
  | (go_at_call 155; refine (c155 _ _ _).mono ?_; rintro e w2 ⟨rfl, rfl⟩)
  | (go_at_call 157; refine (c157 _ _ (by omega) _).mono ?_; rintro e w2 ⟨rfl, rfl⟩))
 by_cases k8 : cc = 8
 · (
 go_wp2_with fail
 go_roundw
 case rel => exact ⟨⟨m - 1, (IntKind.u64.wrap (IntKind.u64.wrap (rotl (bits BinOp.xor IntKind.u64 h (hround 0 (le 8 cur))) 27 * 11400714785074694791) + 9650029242287828579)), cur.drop 8, some ⟨g, o, none⟩, 0, by rw [HLN.out], rfl, ⟨by rw [HLN.out]; omega, by omega, .inl (by rw [HLN.out]; omega)⟩, below_then HBW2.out HBW2.out.size hb1, by rw [HST.out, HS2.out], by rw [HLN.out]; omega, by rw [HLN.out]; omega⟩⟩
 case measure => simp [slen]; omega)
 · (
 go_wp2_with fail
 go_roundw
 case rel => exact ⟨⟨m - 1, (IntKind.u64.wrap (IntKind.u64.wrap (rotl (bits BinOp.xor IntKind.u64 h (hround 0 (le 8 cur))) 27 * 11400714785074694791) + 9650029242287828579)), cur.drop 8, some ⟨g, o + 8, none⟩, cc - 8, by rw [HLN.out], rfl, ⟨by rw [HLN.out]; omega, by omega, .inr ⟨_, _, rfl, (HBY.out.keep hb1).drop 8⟩⟩, below_then HBW2.out HBW2.out.size hb1, by rw [HST.out, HS2.out], by rw [HLN.out]; omega, by rw [HLN.out]; omega⟩⟩
 case measure => simp [slen]; omega))
 · (
 have f1 : ¬ (8 : Int) ≤ (cur.length : Int) := by omega
 have f2 : (cur.length : Int) < (8 : Int) := by omega
 have hd : T = (h, cur) := by rw [hst]; exact tail8_done m h cur (by omega)
 have HD := Lib.hid hd
 clear hbr hbw hst hd
 go_upto_if 99 with fail
 go_cut [3, 4] from 97 (fun s3 s4 wx => s4 = .int .u64 (tail4 T).1 ∧ Left w wx s3 (tail4 T).2 ∧ (tail4 T).2.length ≤ 8)
 case first => (
 as_aux_lemma => (
 by_cases h4 : 4 ≤ cur.length
 · (
 have g1 : (4 : Int) ≤ (cur.length : Int) := by omega
 obtain ⟨g, o, rfl, hby⟩ := HBR2.out.at_ (by omega)
 have C1 := Lib.hid (c159 g o cur.length cc cur wo (by omega) (by omega) hby)
 have HBY := Lib.hid hby
 have hlen : (cur.drop 4).length = cur.length - 4 := List.length_drop ..
 have HLN := Lib.hid hlen
 have bcc : (cur.length : Int) ≤ (cc : Int) := by omega
 have ht4 : tail4 T = (IntKind.u64.wrap (IntKind.u64.wrap (rotl (bits BinOp.xor IntKind.u64 h (IntKind.u64.wrap (IntKind.u64.wrap (le 4 cur) * 11400714785074694791))) 23 * 14029467366897019727) + 1609587929392839161), cur.drop 4) := by rw [HD.out]; unfold tail4; rw [if_pos h4]
 have HT4 := Lib.hid ht4
 clear hby hlen ht4
 go_upto_region 23 with (first
  | (go_at_call 159; refine C1.out.mono ?_; rintro e w1 ⟨rfl, hb1⟩)
  | (go_at_call 157; refine (c157 _ _ (by omega) _).mono ?_; rintro e w2 ⟨rfl, rfl⟩))
 by_cases k4 : cc = 4
 · (
 go_wp2_with fail
 go_meet
 rw [HT4.out]
 exact ⟨rfl, ⟨some ⟨g, o, none⟩, 0, by rw [HLN.out], ⟨by rw [HLN.out]; omega, by omega, .inl (by rw [HLN.out]; omega)⟩, below_then HBW2.out HBW2.out.size hb1⟩, by show (cur.drop 4).length ≤ 8; rw [HLN.out]; omega⟩)
 · (
 go_wp2_with fail
 go_meet
 rw [HT4.out]
 exact ⟨rfl, ⟨some ⟨g, o + 4, none⟩, cc - 4, by rw [HLN.out], ⟨by rw [HLN.out]; omega, by omega, .inr ⟨_, _, rfl, (HBY.out.keep hb1).drop 4⟩⟩, below_then HBW2.out HBW2.out.size hb1⟩, by show (cur.drop 4).length ≤ 8; rw [HLN.out]; omega⟩))
 · (
 have g1 : ¬ (4 : Int) ≤ (cur.length : Int) := by omega
 have g2 : (cur.length : Int) < (4 : Int) := by omega
 have ht4 : tail4 T = (h, cur) := by rw [HD.out]; unfold tail4; rw [if_neg h4]
 have HT4 := Lib.hid ht4
 clear ht4
 go_wp2_with fail
 go_meet
 rw [HT4.out]
 exact ⟨rfl, ⟨A2, cc, rfl, HBR2.out, HBW2.out⟩, by show cur.length ≤ 8; omega⟩)))
 case rest => (
 obtain ⟨rfl, hleft, hlen⟩ := hcut
 obtain ⟨wx1, rfl⟩ : ∃ wx1 : World, wx1 = wc := ⟨_, rfl⟩
 obtain ⟨A3, c3, rfl, hbr, hbw⟩ := hleft
 obtain ⟨R, hR⟩ : ∃ R, R = tail4 T := ⟨_, rfl⟩
 rw [← hR] at hbr hlen
 have HSUM : Hid (sum64 bs = avalanche (R.2.foldl tail1 R.1)) := by
  show sum64 bs = _
  rw [hR, HT.out, HP.out]
  rfl
 have HBR3 := Lib.hid hbr
 have HBW3 := Lib.hid hbw
 have HLEN3 := Lib.hid hlen
 have hcl3 := hbr.1
 have hct3 := hbr.2.1
 rw [← hR]
 clear hbr hbw hlen hR HBR2 HBW2 HST HD HT HP
 as_aux_lemma => (
 go_upto_region 25 with fail
 go_loopw [4, 12, 115] (fun s4 _ s115 wr => ∃ k : Nat, k ≤ R.2.length ∧ s115 = .int .i64 k ∧ s4 = .int .u64 ((R.2.take k).foldl tail1 R.1) ∧ Below wx1.heap.size wx1 wr) (fun _ _ i _ => R.2.length - (intOf i).toNat)
 case atStart => exact ⟨0, Nat.zero_le _, rfl, rfl, Below.refl _ _⟩
 case round => (
 obtain ⟨k, hk, rfl, rfl, hb⟩ := hrel
 obtain ⟨wo3, rfl⟩ : ∃ wo3 : World, wo3 = wr := ⟨_, rfl⟩
 by_cases hlt : k < R.2.length
 · (
 obtain ⟨g, o, rfl, hby⟩ := (HBR3.out.keep hb).at_ (by omega)
 have hi0 : (0 : Int) ≤ (k : Int) := by omega
 have hi1 : (k : Int) < (R.2.length : Int) := by omega
 have hcb : wo3.cell? ⟨g, o + k, none⟩ = some (.int .u8 (R.2[k].toNat : Int)) := hby k _ (by rw [List.getElem?_map, List.getElem?_eq_getElem hlt]; rfl)
 have hfold : (R.2.take (k + 1)).foldl tail1 R.1 = tail1 ((R.2.take k).foldl tail1 R.1) R.2[k] := by
  rw [List.take_succ_eq_append_getElem hlt, List.foldl_append]; rfl
 have HF := Lib.hid hfold
 have HBB := Lib.hid hb
 clear hfold hb hby
 generalize R.2[k] = bk at hcb HF
 have hwb : IntKind.u64.wrap (bk.toNat : Int) = (bk.toNat : Int) := by
  have h := bk.toNat_lt
  show (bk.toNat : Int) % (2 ^ 64 : Int) = _
  omega
 generalize hfo : List.foldl tail1 R.1 (List.take k R.2) = fo
 rw [hfo] at HF
 have HFO := Lib.hid hfo
 clear hfo
 go_wp2_with (go_at_call 157; refine (c157 _ _ (by omega) _).mono ?_; rintro e w2 ⟨rfl, rfl⟩)
 go_roundw
 case rel => exact ⟨k + 1, by omega, by go_num, by rw [HF.out]; rfl, HBB.out⟩
 case measure => simp [intOf]; omega)
 · (
 have hk' : k = R.2.length := by omega
 subst hk'
 rw [List.take_length]
 generalize hfo : List.foldl tail1 R.1 R.2 = fo
 rw [hfo] at HSUM
 have HBB := Lib.hid hb
 clear hb hfo
 go_wp2_with fail
 go_ret
 exact ⟨by rw [HSUM.out]; rfl, below_then HBW3.out HBW3.out.size HBB.out⟩))))))))
end
section
/-! ### The hash of a set's attributes -/
def remap (x : Int) : Int := if x = 0 then 1 else x
theorem c165r (x : Int) (w : World) : Calls Tryz.prog 165 #[.int .u64 x] w fun e w' => e = .returned (.int .u64 (remap x)) ∧ w = w' := c165 x w
theorem c93 (B q : Nat) (bs : List UInt8) (w : World) (h : Dig w B q bs) (hl : bs.length ≤ 1000000) :
 Calls Tryz.prog 93 #[.agg #[.pointer (some ⟨q, 0, none⟩)]] w fun e w' => e = .returned (.int .u64 (sum64 bs)) ∧ Below w.heap.size w w' := by
 have hb : Below w.heap.size w (w.alloc (.cells #[.pointer (some ⟨q, 0, none⟩)] 203)) := (Below.refl _ _).alloc (Nat.le_refl _) _
 have C := Lib.hid (c138 B q bs _ (dig_keep h (fun b _ hb2 => hb.block b hb2)) hl)
 have HB := Lib.hid hb
 clear hb h
 go_enter Tryz.func93, Tryz.ntmps93
 go_wp2_with (go_at_call 138; refine C.out.mono ?_; rintro e w1 ⟨rfl, hb1⟩)
 go_ret
 exact ⟨rfl, below_then HB.out HB.out.size hb1⟩
theorem info93 : (Tryz.prog.info? 93).map (·.size) = some 1 := by kernel_rfl
theorem c154 (B q hq : Nat) (bs : List UInt8) (w : World) (h : Dig w B q bs) (hH : w.heap[hq]? = some (.cells #[.pointer (some ⟨q, 0, none⟩)] 294 (0, 0))) (hl : bs.length ≤ 1000000) :
 Calls Tryz.prog 154 #[.pointer (some ⟨hq, 0, none⟩)] w fun e w' => e = .returned (.agg #[.int .u64 (remap (sum64 bs))]) ∧ Below w.heap.size w w' := by
 have hqs : hq < w.heap.size := (Array.getElem?_eq_some_iff.1 hH).1
 obtain ⟨W0, hW0⟩ : ∃ W0, W0 = w.alloc (.cells #[.int .u64 0] 93) := ⟨_, rfl⟩
 have hb : Below w.heap.size w W0 := ba hW0
 have hz : W0.heap[w.heap.size]? = some (.cells #[.int .u64 0] 93 (0, 0)) := by rw [hW0]; exact heap_alloc_new w _
 have hz2 := (hb.block _ hqs).trans hH
 have hc := blk_cell hz2 0 _ rfl
 have hs0 : w.heap.size < W0.heap.size := by rw [hW0]; simp
 have C := Lib.hid (c93 B q bs W0 (dig_keep h (fun b _ hb2 => hb.block b hb2)) hl)
 have HW := Lib.hid hW0
 have HB := Lib.hid hb
 have HZ := Lib.hid hz
 clear hW0 hb hz h hz2
 go_enter Tryz.func154, Tryz.ntmps154
 go_upto_region 1 with fail
 rw [← HW.out]
 go_wp2_with (first
  | (go_at_call 93; refine C.out.mono ?_; rintro e w1 ⟨rfl, hb1⟩; have hz1 : w1.heap[w.heap.size]? = _ := (hb1.block _ hs0).trans HZ.out)
  | (go_at_call 165; refine (c165r _ _).mono ?_; rintro e w2 ⟨rfl, rfl⟩)
  | ((with_reducible apply arm_store_whole 1 info93 hz1); rfl; rfl; rfl; rfl; rfl; intro w3 g1 g2 g3 g4))
 refine bodyPost_ret (results_cell_row rfl _ _ _ _ _ _ _ rfl g1 Tryz.underlying93 rfl info93) rfl ⟨rfl, g3 _ _ (Nat.le_refl _) (below_then HB.out HB.out.size hb1)⟩
def allBytes (l : List KV) : List UInt8 := (l.map kvBytes).flatten
def hashKVs (l : List KV) : Int := remap (sum64 (allBytes l))
theorem isStr_eq {x : KV} (h : IsStr x) : x = strKV x.key x.str := by
 obtain ⟨k, t, n, s⟩ := x
 obtain ⟨rfl, rfl⟩ := h
 rfl
theorem kvBytes_len (x : KV) (h : x.key.size ≤ 100 ∧ x.str.size ≤ 100) : (kvBytes x).length ≤ 208 := by
 unfold kvBytes
 have h1 : x.key.data.toList.length = x.key.size := by simp
 have h2 : x.str.data.toList.length = x.str.size := by simp
 have h3 : (Lib.leBytes 8 6874584755375207263).length = 8 := by decide
 simp only [List.length_append, h1, h2, h3]
 omega
theorem allBytes_len : ∀ (l : List KV), (∀ x ∈ l, x.key.size ≤ 100 ∧ x.str.size ≤ 100) → (allBytes l).length ≤ 208 * l.length
 | [], _ => by simp [allBytes]
 | x :: l, h => by
  have h1 := kvBytes_len x (h x (by simp))
  have h2 := allBytes_len l fun y hy => h y (by simp [hy])
  have : (allBytes (x :: l)).length = (kvBytes x).length + (allBytes l).length := by simp [allBytes]
  rw [this, List.length_cons]
  omega
theorem allBytes_take (l : List KV) (k : Nat) (x : KV) (h : l[k]? = some x) : allBytes (l.take (k + 1)) = allBytes (l.take k) ++ kvBytes x := by
 obtain ⟨hk, rfl⟩ := List.getElem?_eq_some_iff.1 h
 rw [List.take_succ_eq_append_getElem hk]
 simp only [allBytes, List.map_append, List.flatten_append, List.map_cons, List.map_nil, List.flatten_cons, List.flatten_nil, List.append_nil]
theorem fld93 (x : Int) (w : World) : (Instr.field 93 (.agg #[.int .u64 x]) 0).run Tryz.prog w = .ok (.int .u64 x) w := by kernel_rfl
set_option maxRecDepth 100000 in
set_option maxHeartbeats 1000000 in
theorem c134 (A : Option Addr) (n c : Nat) (l : List KV) (w : World) (h : Rd w w.heap.size 5 A n c (l.map enc5)) (hs : ∀ x ∈ l, IsStr x) (hz : ∀ x ∈ l, x.key.size ≤ 100 ∧ x.str.size ≤ 100) (h8 : n ≤ 8) :
 Calls Tryz.prog 134 #[.slice A n c] w fun e w' => e = .returned (.int .u64 (hashKVs l)) ∧ Below w.heap.size w w' := by
 have hlen := h.numlen
 have H := Lib.hid h
 have HS := Lib.hid hs
 have HZ := Lib.hid hz
 have HLEN := Lib.hid hlen
 clear h hs hz hlen
 go_enter Tryz.func134, Tryz.ntmps134
 go_upto_region 3 with (go_at_call 152; refine (c152 _).mono ?_; rintro e w1 ⟨hq, q, rfl, hd, hH, hne, hge, hb1⟩)
 have HHQ := Lib.hid hH
 have HD := Lib.hid hd
 have HB := Lib.hid hb1
 clear hH hd hb1
 go_loopw [9] (fun i wr => ∃ k : Nat, k ≤ n ∧ i = .int .i64 k ∧ Dig wr w.heap.size q (allBytes (l.take k)) ∧ wr.heap[hq]? = some (.cells #[.pointer (some ⟨q, 0, none⟩)] 294 (0, 0)) ∧ Below w.heap.size w wr) (fun i _ => n - (intOf i).toNat)
 case atStart => exact ⟨0, Nat.zero_le _, rfl, HD.out, HHQ.out, HB.out⟩
 case round => (
 obtain ⟨k, hk, rfl, hd, hH, hb⟩ := hrel
 obtain ⟨wo, rfl⟩ : ∃ wo : World, wo = wr := ⟨_, rfl⟩
 have hbs := hb.size
 have HHK := Lib.hid hH
 have HDK := Lib.hid hd
 have HBK := Lib.hid hb
 have hln : (allBytes (l.take k)).length ≤ 208 * (l.take k).length := allBytes_len _ fun x hx => HZ.out x (List.mem_of_mem_take hx)
 have hlt8 : (l.take k).length ≤ 8 := by rw [List.length_take]; have := HLEN.out; omega
 have hbl : (allBytes (l.take k)).length ≤ 1664 := by omega
 have HBL := Lib.hid hbl
 clear hln hlt8 hbl
 by_cases hlt : k < n
 · (
 obtain ⟨b, o, r, rfl, hbB, hx, _, ca⟩ := (H.out.below hb).at_ hlt
 rw [List.getElem?_map, Option.map_eq_some_iff] at hx
 obtain ⟨x, hx, rfl⟩ := hx
 have hxs := HZ.out x (List.mem_of_getElem? hx)
 have hxe := isStr_eq (HS.out x (List.mem_of_getElem? hx))
 obtain ⟨cx, hcx⟩ : ∃ cx, cx = (enc5 x).toArray := ⟨_, rfl⟩
 have sx : cx.size = 5 := by rw [hcx]; rfl
 have oc1 : cx.toList.all (·.oneCell') = true := by rw [hcx]; rfl
 have ca2 : wo.rangeAt b (o + k * 5) cx.toList := by rw [hcx]; exact ca
 have hbn : Below wo.heap.size wo (wo.alloc (.cells cx 87)) := (Below.refl _ _).alloc (Nat.le_refl _) _
 have hqlt : hq < wo.heap.size := (Array.getElem?_eq_some_iff.1 hH).1
 have hH2 := (hbn.block _ hqlt).trans hH
 have hd2 := dig_keep hd (fun b _ hb2 => hbn.block b hb2)
 have z1 : (wo.alloc (.cells cx 87)).heap[wo.heap.size]? = some (.cells cx 87 (0, 0)) := heap_alloc_new wo _
 have hqq : q < (wo.alloc (.cells cx 87)).heap.size := by obtain ⟨_, v, h2, _⟩ := hd2; exact (Array.getElem?_eq_some_iff.1 h2).1
 have C := Lib.hid (c153 w.heap.size q hq (allBytes (l.take k)) x.key x.str (wo.alloc (.cells cx 87)) hd2 hH2 hne (by have := hbn.size; omega) (by have := HBL.out; omega))
 rw [← hxe, ← hcx] at C
 have HBT := Lib.hid (allBytes_take l k x hx)
 have HBN := Lib.hid hbn
 have HH2 := Lib.hid hH2
 have hi0 : (0 : Int) ≤ (k : Int) := by omega
 have hi1 : (k : Int) < (n : Int) := by omega
 clear hd hH hb hx hcx hxe ca hbn hH2 hd2 hqq
 go_wp2_with (first
  | (go_at_call 153; refine C.out.mono ?_; rintro e w1 ⟨rfl, hd1, hb1, hk1⟩)
  | ((with_reducible refine arm_load_all 5 info87 Tryz.underlying87 z1 ?_ ?_ ?_ ?_); rfl; rfl; exact sx)
  | ((with_reducible refine arm_load ca2 ?_ 5 info87 Tryz.underlying87 ?_ ?_ ?_); rfl; rfl; exact sx)
  | ((with_reducible apply arm_store_new 5 info87); rfl; simp; rfl; rfl; assumption; assumption))
 go_roundw
 case rel => exact ⟨k + 1, by omega, by go_num, by rw [HBT.out]; exact hd1, hk1.blk HH2.out hne (by decide), (HBK.out.trans (HBN.out.mono hbs)).trans hb1⟩
 case measure => simp [intOf]; omega)
 · (
 obtain rfl : k = n := by omega
 have htk : l.take k = l := List.take_of_length_le (by have := HLEN.out; omega)
 rw [htk] at HDK HBL
 have C := Lib.hid (c154 w.heap.size q hq (allBytes l) wo HDK.out hH (by have := HBL.out; omega))
 have hf := fld93
 clear hd hH hb htk
 go_wp2_with (go_at_call 154; refine C.out.mono ?_; rintro e w1 ⟨rfl, hb1⟩)
 go_ret
 exact ⟨rfl, below_then HBK.out hbs hb1⟩))
/-! ### Sets and points as they are made -/
/-- The attributes of a set, in memory. -/
structure SetR (w : World) (B : Nat) (s : Sl) (l : List KV) : Prop where
 rd : Rd w B 5 s.A s.n s.c (l.map enc5)
 str : ∀ x ∈ l, IsStr x
 small : ∀ x ∈ l, x.key.size ≤ 100 ∧ x.str.size ≤ 100
 len : l.length ≤ 8
theorem SetR.below {w w' : World} {B : Nat} {s : Sl} {l : List KV} (h : SetR w B s l) (hb : Below B w w') : SetR w' B s l := ⟨h.rd.below hb, h.str, h.small, h.len⟩
theorem SetR.more {w : World} {B B' : Nat} {s : Sl} {l : List KV} (h : SetR w B s l) (hB : B ≤ B') : SetR w B' s l := ⟨h.rd.more hB, h.str, h.small, h.len⟩
/-- A point's slices, in memory. -/
structure PtR (w : World) (B : Nat) (d : Dot) (s : Sl5) : Prop where
 set : SetR w B s.a d.attrs
 b : Rd w B 1 s.b.A s.b.n s.b.c (d.bounds.map encF)
 k : Rd w B 1 s.k.A s.k.n s.k.c (d.buckets.map encU)
 p : Rd w B 1 s.p.A s.p.n s.p.c (d.pos.map encU)
 n : Rd w B 1 s.n.A s.n.n s.n.c (d.neg.map encU)
theorem PtR.below {w w' : World} {B : Nat} {d : Dot} {s : Sl5} (h : PtR w B d s) (hb : Below B w w') : PtR w' B d s :=
 ⟨h.set.below hb, h.b.below hb, h.k.below hb, h.p.below hb, h.n.below hb⟩
theorem PtR.more {w : World} {B B' : Nat} {d : Dot} {s : Sl5} (h : PtR w B d s) (hB : B ≤ B') : PtR w B' d s :=
 ⟨h.set.more hB, h.b.more hB, h.k.more hB, h.p.more hB, h.n.more hB⟩
end
section
/-! ### Making a set -/
theorem info87z : (Tryz.prog.info? 87).map (fun i => (i.zero, i.size, i.bytes)) = some (some (.agg #[.string ⟨#[]⟩, .int .i64 0, .int .u64 0, .string ⟨#[]⟩, .nilIface]), 5, 64) := by kernel_rfl
theorem info80 : (Tryz.prog.info? 80).map (·.size) = some 2 := by kernel_rfl
theorem one_enc5 (l : List KV) : ∀ u ∈ (l.map enc5).flatten, u.oneCell' = true := by
 intro u hu
 simp only [List.mem_flatten, List.mem_map] at hu
 obtain ⟨r, ⟨x, _, rfl⟩, hu⟩ := hu
 simp [enc5] at hu
 rcases hu with rfl | rfl | rfl | rfl | rfl <;> rfl
theorem enc5_rows (l : List KV) : ∀ r ∈ l.map enc5, r.length = 5 := by
 intro r hr
 obtain ⟨x, _, rfl⟩ := List.mem_map.1 hr
 rfl
theorem setR_of_own {w : World} {B n : Nat} {v : Value} {l : List KV} (h : w.ownsRow B 87 5 v n (l.map enc5).flatten) (hl : l.length = n) (hs : ∀ x ∈ l, IsStr x) (hz : ∀ x ∈ l, x.key.size ≤ 100 ∧ x.str.size ≤ 100) (h8 : n ≤ 8) :
 ∃ s : Sl, v = .slice s.A s.n s.c ∧ s.n = n ∧ SetR w w.heap.size s l ∧ ∀ b o t, s.A = some ⟨b, o, t⟩ → B ≤ b := by
 obtain ⟨A, c, rfl, hr, hn⟩ := rd_of_own h (enc5_rows l) (by simpa using hl) (by omega)
 exact ⟨⟨A, n, c⟩, rfl, rfl, ⟨hr, hs, hz, by omega⟩, fun b o t h => (hn b o t h).1⟩
/-- A set in memory that is newer than a world. -/
structure SetNew (w0 w : World) (s : Sl) (l : List KV) : Prop where
 set : SetR w w.heap.size s l
 new : ∀ b o t, s.A = some ⟨b, o, t⟩ → w0.heap.size ≤ b
theorem SetNew.older {w0 w1 w : World} {s : Sl} {l : List KV} (h : SetNew w1 w s l) (hs : w0.heap.size ≤ w1.heap.size) : SetNew w0 w s l := ⟨h.set, fun b o t e => Nat.le_trans hs (h.new b o t e)⟩
theorem SetNew.below {w0 w w' : World} {s : Sl} {l : List KV} (h : SetNew w0 w s l) (hb : Below w.heap.size w w') : SetNew w0 w' s l := ⟨(h.set.below hb).more hb.size, h.new⟩
/-- What is stored into an older block leaves it alone. -/
theorem SetNew.stored {w0 w w' : World} {s : Sl} {l : List KV} (h : SetNew w0 w s l) {x : Nat} (hx : x < w0.heap.size) (hk : ∀ b, b ≠ x → w'.heap[b]? = w.heap[b]?) (hs : w'.heap.size = w.heap.size) : SetNew w0 w' s l := by
 refine ⟨⟨⟨h.set.rd.len, h.set.rd.cap, h.set.rd.top, h.set.rd.ctop, h.set.rd.row, fun hn => ?_⟩, h.set.str, h.set.small, h.set.len⟩, h.new⟩
 obtain ⟨b, o, hA, hb, hc⟩ := h.set.rd.mem hn
 have hge := h.new b o none hA
 refine ⟨b, o, hA, by omega, fun j v hv => ?_⟩
 have := hc j v hv
 have e : w'.cell? ⟨b, o + j, none⟩ = w.cell? ⟨b, o + j, none⟩ := by simp [World.cell?, hk b (by omega)]
 rw [e]
 exact this
set_option maxHeartbeats 1000000 in
theorem c89 (A : Option Addr) (n c : Nat) (l : List KV) (w : World) (h : Rd w w.heap.size 5 A n c (l.map enc5)) (hs : ∀ x ∈ l, IsStr x) (hz : ∀ x ∈ l, x.key.size ≤ 100 ∧ x.str.size ≤ 100) (h8 : n ≤ 8) (hn : 0 < n) :
 Calls Tryz.prog 89 #[.slice A n c] w fun e w' => ∃ s : Sl, e = .returned (.agg #[.int .u64 (hashKVs l), .slice s.A s.n s.c]) ∧ SetNew w w' s l ∧ Below w.heap.size w w' := by
 have hlen := h.numlen
 obtain ⟨b, o, rfl, hbB, _⟩ := h.mem hn
 obtain ⟨W0, hW0⟩ : ∃ W0, W0 = w.alloc (.cells #[.int .u64 0, .slice none 0 0] 80) := ⟨_, rfl⟩
 have hb : Below w.heap.size w W0 := ba hW0
 have hzb : W0.heap[w.heap.size]? = some (.cells #[.int .u64 0, .slice none 0 0] 80 (0, 0)) := by rw [hW0]; exact heap_alloc_new w _
 have hs0 : w.heap.size < W0.heap.size := by rw [hW0]; simp
 have h0 := (h.below hb).more hb.size
 have C := Lib.hid (c134 (some ⟨b, o, none⟩) n c l W0 h0 hs hz h8)
 have HR := Lib.hid h0
 have HW := Lib.hid hW0
 have HB := Lib.hid hb
 have HZB := Lib.hid hzb
 have HS := Lib.hid hs
 have HZ := Lib.hid hz
 have HLEN := Lib.hid hlen
 obtain ⟨i0, hi, hz0, hz1, hz2⟩ := info_parts3 info87z
 have HI := Lib.hid (And.intro hi (And.intro hz0 (And.intro hz1 hz2)))
 clear hW0 hb hzb h h0 hs hz hlen hi hz0 hz1 hz2
 go_enter Tryz.func89, Tryz.ntmps89
 go_upto_region 1 with fail
 rw [← HW.out]
 go_wp2_with (first
  | (go_at_call 134; refine C.out.mono ?_; rintro e w1 ⟨rfl, hb1⟩; have hz1 : w1.heap[w.heap.size]? = _ := (hb1.block _ hs0).trans HZB.out; have hr1 := Lib.hid ((HR.out.below hb1).src _ rfl))
  | (at_builtin; go_loud ((refine wpList_append_own_at _ rfl _ _ 78 rfl w1.heap.size 87 i0 _ 5 64 Tryz.underlying78 HI.out.1 HI.out.2.1 HI.out.2.2.1 HI.out.2.2.2 rfl (by decide) _ 0 [] rfl (own_empty w1 87 5 w1.heap.size (Nat.le_refl _)) ⟨b, o, none⟩ n c (l.map enc5).flatten rfl hr1.out.1 ?_ (one_enc5 l) ?_ ?_ ?_ ?_); (exact fun j u hu => keep_alloc (hr1.out.2 j u hu) _); (simp only [maxLen]; omega); omega; simp; intro v2 w2 hown2 hg2 _ _; obtain ⟨A2, c2, rfl⟩ := own_slice hown2; have hz2 := (hg2.block w.heap.size (by have := hb1.size; rw [World.size_alloc]; omega) (by show some w.heap.size ≠ some w1.heap.size; intro he; injection he with he; have := hb1.size; omega)).trans ((Below.heap_alloc _ _ _ (Array.getElem?_eq_some_iff.1 hz1).1).trans hz1)))
  | ((with_reducible apply arm_store_whole 2 info80 hz2); rfl; rfl; rfl; rfl; rfl; intro w3 g1 g2 g3 g4))
 have hl1 := hb1.size
 have hbw : Below w.heap.size w w2 := by
  refine ((below_then HB.out HB.out.size hb1).alloc (by omega) _).grown hg2 (by simp; omega) (fun k hk => ?_)
  have hk' : some w1.heap.size = some k := hk
  injection hk' with hk'
  omega
 have hown3 : w3.ownsRow w1.heap.size 87 5 (.slice A2 (0 + n) c2) (0 + n) (l.map enc5).flatten := own_of_block (by simpa using hown2) (fun g hg => g2 g (by have := own_ge hown2 hg; omega))
 obtain ⟨s, hs1, hs2, hs3, hs4⟩ := setR_of_own hown3 (by have := HLEN.out; omega) HS.out HZ.out (by omega)
 refine bodyPost_ret (results_cell_row rfl _ _ _ _ _ _ _ rfl g1 Tryz.underlying80 rfl info80) rfl ⟨s, by rw [← hs1, Nat.zero_add], ⟨hs3, fun b o t h => by have := hs4 b o t h; omega⟩, g3 _ _ (Nat.le_refl _) hbw⟩
def hashL (l : List KV) : Int := if l = [] then sum64 [] else hashKVs l
theorem hashL_ne (l : List KV) (hs : sum64 [] ≠ 0) : hashL l ≠ 0 := by
 unfold hashL
 split
 · exact hs
 · (
 unfold hashKVs remap
 split
 · decide
 · assumption)
theorem sum64_nil : sum64 [] ≠ 0 := by decide
end
section
/-! ### A row stored where it stands already -/
theorem setCell_noop {w : World} {a : Addr} {v : Value} (h : w.cell? a = some v) (ha : a.spot = none) : w.setCell a v = w := by
 have key : w.heap.modify a.block (fun
  | .cells c elem frozen => .cells (if a.spot.isSome then c else c.setIfInBounds a.off v) elem frozen
  | o => o) = w.heap := by
  apply Array.ext_getElem?
  intro i
  rw [Array.getElem?_modify]
  by_cases hi : a.block = i
  · (
  subst hi
  rw [if_pos rfl]
  cases ho : w.heap[a.block]? with
  | none => rfl
  | some o =>
   cases o with
   | cells c e f =>
    have hc : c[a.off]? = some v := by
     simpa [World.cell?, ho, ha] using h
    simp only [Option.map_some, ha, Option.isSome_none, Bool.false_eq_true, if_false]
    congr 2
    apply Array.ext_getElem?
    intro j
    rw [Array.getElem?_setIfInBounds]
    split
    · (
    rename_i hj
    subst hj
    split
    · exact hc.symm
    · rename_i hn
      rw [Array.getElem?_eq_none (by omega)])
    · rfl
   | _ => rfl)
  · rw [if_neg hi]
 exact congrArg (fun h => ({ w with heap := h } : World)) key
theorem setCells_noop {w : World} {b : Nat} : ∀ (cs : List Value) (o : Nat), w.rangeAt b o cs → w.setCells b o cs = w
 | [], _, _ => rfl
 | v :: r, o, h => by
  have h0 := h 0 v rfl
  rw [Nat.add_zero] at h0
  rw [World.setCells, setCell_noop h0 rfl]
  exact setCells_noop r (o + 1) fun j u hu => by
   have := h (j + 1) u (by simpa using hu)
   rw [show o + (j + 1) = o + 1 + j by omega] at this
   exact this
theorem store_noop {P : Program} {op : Oper} {a : Act} {w : World} {K : Act → World → Prop} {Q : Exit → Act → World → Prop} (ty : TypeId) (x y : Operand) (ho : op.op = .store ty x y) (hd : op.dst = none)
 {b o : Nat} {cs : Array Value} (hx : a.eval x = .pointer (some ⟨b, o, none⟩)) (hy : a.eval y = .agg cs) (hr : w.rangeAt b o cs.toList) (ht : w.there b o cs.size)
 (hi : (P.info? ty).map (·.size) = some cs.size) (h1 : cs.toList.all (·.oneCell') = true) (c : Bool) (hc : c = true) (h : K a w) :
 if c = true then op.wp P a w K Q else K (a.put op.dst undef) w := by
 subst hc
 rw [if_pos rfl]
 refine wp_store_mid ty x y ho b o cs hx hy ht hi (by rw [← Array.all_toList]; exact h1) ?_
 rw [hd, setCells_noop _ _ hr]
 exact h
/-- A row loaded, in a region that draws its order. -/
theorem run_load_at {P : Program} {oi : Oper} {a : Act} {ty : TypeId} {x : Operand} (ho : oi.op = .load ty x) {w : World} {b off : Nat} {cs : List Value} {de : TypeDesc}
 (hc : w.rangeAt b off cs) (hx : a.eval x = .pointer (some ⟨b, off, none⟩)) (hu : P.underlying ty = some de) (hd : de.isRow = true) (hi : (P.info? ty).map (·.size) = some cs.length) :
 (execOp a.eval oi).run P w = .ok (.value (.agg cs.toArray)) w := by
 unfold execOp
 simp only [ho, hx, Instr.loadAt, Instr.sureAddr, Sem.run_bind, Sem.run_pure, Result.andThen_ok, run_loadVar_mid w b off ty cs de hc hu hd hi]
theorem results_row_tmp {P : Program} {fn : Func} {p u : Tmp} {ty : TypeId} (h : fn.results = #[.cell p ty, .tmp u]) (tmps : Array Value) (w : World) (g : Nat) (t : TypeId) (cs : Array Value) (fr : Nat × Nat) (d : TypeDesc)
 (hp : tmps.getD p undef = .pointer (some ⟨g, 0, none⟩)) (hg : w.heap[g]? = some (.cells cs t fr))
 (hu : P.underlying ty = some d) (hd : (match d with | .struct _ | .array _ _ => true | _ => false) = true) (hi : (P.info? ty).map (·.size) = some cs.size) :
 (results fn tmps).run P w = .ok (.tuple #[.agg cs, tmps.getD u undef]) w := by
 rw [results_cell_tmp h, hp]
 simp [asAddr, run_loadVar_row w g t ty cs fr d hg hu hd hi]
open Go.Sort
theorem blk_sortWorldK {α : Type} [Inhabited α] (enc : α → List Value) (k : Nat) (w : World) (g off n : Nat) (d : Array α) (os : Array Obj) (i : Nat) (hi : i < w.heap.size) (hg : i ≠ g) : (sortWorldK enc k w g off n d os).heap[i]? = w.heap[i]? := by
 unfold sortWorldK grow putRowK putRow mapBlock Sort.ahead
 simp only [Array.getElem?_append, Array.size_modify, Array.getElem?_modify]
 rw [if_pos (by omega), if_neg (by omega)]
theorem cell_heap {w w' : World} (h : w'.heap = w.heap) (a : Addr) : w'.cell? a = w.cell? a := by simp [World.cell?, h]
theorem frozen_heap {w w' : World} (h : w'.heap = w.heap) (a : Addr) : w'.frozen? a = w.frozen? a := by simp [World.frozen?, h]
theorem nf193 (w : World) : (binOp .neq 193 .nilFunc .nilFunc).run Tryz.prog w = .ok (.bool false) w := by kernel_rfl
set_option maxRecDepth 100000 in
set_option maxHeartbeats 2000000 in
theorem c51 (B g cap n : Nat) (l : List KV) (w : World) (hown : w.ownsRow B 87 5 (.slice (some ⟨g, 0, none⟩) n cap) n (l.map enc5).flatten) (hB : B ≤ w.heap.size) (hl : l.length = n) (hn : 0 < n) (h8 : n ≤ 8)
 (hs : ∀ x ∈ sortK l, IsStr x) (hz : ∀ x ∈ sortK l, x.key.size ≤ 100 ∧ x.str.size ≤ 100) (hd : ∀ (i : Nat) (x y : KV), (sortK l)[i]? = some x → (sortK l)[i + 1]? = some y → x.key.toList ≠ y.key.toList) :
 Calls Tryz.prog 51 #[.slice (some ⟨g, 0, none⟩) n cap, .nilFunc] w fun e w' => ∃ s : Sl, e = .returned (.tuple #[.agg #[.int .u64 (hashKVs (sortK l)), .slice s.A s.n s.c], .slice none 0 0]) ∧ SetNew w w' s (sortK l) ∧ w.grownBy w' (some g) := by
 obtain ⟨hBg, hglt, hnc, hcm⟩ : B ≤ g ∧ g < w.heap.size ∧ n ≤ cap ∧ cap ≤ maxLen := by
  obtain ⟨g', c', h1, h2, h3, h4, h5⟩ := own_some hown hn
  simp only [Value.slice.injEq, Option.some.injEq, Addr.mk.injEq, and_true, true_and] at h1
  obtain ⟨rfl, rfl⟩ := h1
  exact ⟨h2, h3, h4, h5⟩
 obtain ⟨W0, hW0⟩ : ∃ W0, W0 = w.alloc (.cells #[.int .u64 0, .slice none 0 0] 80) := ⟨_, rfl⟩
 have hb : Below w.heap.size w W0 := ba hW0
 have hzb : W0.heap[w.heap.size]? = some (.cells #[.int .u64 0, .slice none 0 0] 80 (0, 0)) := by rw [hW0]; exact heap_alloc_new w _
 have hs0 : w.heap.size < W0.heap.size := by rw [hW0]; simp
 have hH : HoldsK enc5 5 W0 g 0 l.toArray := holdsK_of_own enc5 (fun _ => rfl) l.toArray (own_of_block hown (fun g' hg' => hb.block g' (hown.lt g' hg').2)) (by simpa using hl) hn
 have C := Lib.hid (c85 g 0 cap n l.toArray W0 hH (by omega) (by simpa using hl) (by omega))
 have HH := Lib.hid hH
 have HW := Lib.hid hW0
 have HB := Lib.hid hb
 have HZB := Lib.hid hzb
 have HS := Lib.hid hs
 have HZ := Lib.hid hz
 have HD := Lib.hid hd
 have HCM := Lib.hid hcm
 have hlen : (sortK l).length = n := by rw [length_sortK]; exact hl
 have HLEN := Lib.hid hlen
 clear hW0 hb hzb hs hz hd hown hH hlen hcm
 have f1 : ¬ n = 0 := by omega
 have f2 : ¬ (n : Int) = 0 := by omega
 go_enter Tryz.func51, Tryz.ntmps51
 go_upto_region 1 with fail
 rw [← HW.out]
 go_upto_region 4 with (go_at_call 85; refine C.out.mono ?_; rintro e w1 ⟨rfl, m, os, hw1⟩; have HW1 := Lib.hid hw1; clear hw1)
 have hw1 := HW1.out
 have hsz : (sortA l.toArray).size = l.toArray.size := size_sortA _
 have hsw : W0.heap.size ≤ w1.heap.size := by rw [hw1]; exact size_sortWorldK_c enc5 5 W0 g 0 m _ os
 have hk := holdsK_sortWorldK_c enc5 5 W0 g 0 l.toArray (sortA l.toArray) m os HH.out (by omega) hsz
 rw [← hw1] at hk
 have hrd : Rd w1 w1.heap.size 5 (some ⟨g, 0, none⟩) n cap ((sortK l).map enc5) := rd_of_holdsK enc5 (fun _ => rfl) _ hk (by rw [hsz]; simpa using hl) (by omega) hnc (by omega) (by have := HCM.out; simpa [maxLen] using this)
 have hb1 : Below B w w1 := by
  rw [hw1]
  exact below_sortWorldK enc5 5 (HB.out.mono hB) (by omega) hBg 0 m _ os
 have hz1 : w1.heap[w.heap.size]? = some (.cells #[.int .u64 0, .slice none 0 0] 80 (0, 0)) := by
  rw [hw1, blk_sortWorldK enc5 5 W0 g 0 m _ os _ hs0 (by omega)]
  exact HZB.out
 have hfr : ∀ (k i : Nat), k < n → i < 5 → w1.frozen? ⟨g, k * 5 + i, none⟩ = false := by
  intro k i hk1 hi1
  have := (hk (k * 5 + i) (by rw [size_flatK, hsz]; simp; omega)).2
  simpa using this
 have hblk : ∀ k, k < w.heap.size → k ≠ g → w1.heap[k]? = w.heap[k]? := fun k hk1 hk2 => by
  rw [hw1, blk_sortWorldK enc5 5 W0 g 0 m _ os _ (by omega) hk2]
  exact HB.out.block k hk1
 have HBLK := Lib.hid hblk
 clear hblk
 have HK := Lib.hid hrd
 have HFR := Lib.hid hfr
 have HB1 := Lib.hid hb1
 have HZ1 := Lib.hid hz1
 have HSW := Lib.hid hsw
 clear hw1 HW1 hk hrd hb1 hz1 hsz hfr hsw HH C
 obtain ⟨N, rfl⟩ : ∃ N, n = N + 1 := ⟨n - 1, by omega⟩
 go_upto_region 6 with fail
 go_loopw [6, 7] (fun s6 s7 wr => ∃ j : Nat, j ≤ N ∧ s6 = .int .i64 j ∧ s7 = .int .i64 ((j : Int) - 1) ∧ wr.heap = w1.heap ∧ Below w1.heap.size w1 wr) (fun s6 _ _ => (intOf s6).toNat)
 case atStart => exact ⟨N, Nat.le_refl _, by go_num, by go_num, rfl, Below.refl _ _⟩
 case round => (
 obtain ⟨j, hj, rfl, rfl, hheap, hbw⟩ := hrel
 obtain ⟨wo, rfl⟩ : ∃ wo : World, wo = wr := ⟨_, rfl⟩
 have HHEAP := Lib.hid hheap
 have HBW := Lib.hid hbw
 clear hheap hbw
 cases j with
 | zero =>
  have hrw : Rd wo wo.heap.size 5 (some ⟨g, 0, none⟩) (N + 1) cap ((sortK l).map enc5) := HK.out.keep (fun b o _ => cell_heap HHEAP.out _) (by rw [HHEAP.out]; exact Nat.le_refl _)
  have hzw : wo.heap[w.heap.size]? = some (.cells #[.int .u64 0, .slice none 0 0] 80 (0, 0)) := by rw [HHEAP.out]; exact HZ1.out
  have C := Lib.hid (c89 (some ⟨g, 0, none⟩) (N + 1) cap (sortK l) wo hrw HS.out HZ.out h8 (by omega))
  have hlw : w.heap.size < wo.heap.size := (Array.getElem?_eq_some_iff.1 hzw).1
  have HZW := Lib.hid hzw
  clear hrw hzw
  have nf := nf193
  have q0 : (0 : Int) ≤ ((N + 1 : Nat) : Int) := by omega
  go_wp2_with (first
   | (go_at_call 89; refine C.out.mono ?_; rintro e w2 ⟨s, rfl, hset, hb2⟩; have hz2 : w2.heap[w.heap.size]? = _ := (hb2.block _ hlw).trans HZW.out)
   | ((with_reducible apply arm_store_whole 2 info80 hz2); rfl; rfl; rfl; rfl; rfl; intro w3 g1 g2 g3 g4))
  refine bodyPost_ret (results_row_tmp rfl _ _ _ _ _ _ _ rfl g1 Tryz.underlying80 rfl info80) rfl ⟨s, rfl, (hset.stored hlw g2 g4).older (Nat.le_of_lt hlw), ?_⟩
  have h1 : Below B w wo := HB1.out.trans (HBW.out.mono (by have := HSW.out; omega))
  have h2 : Below B w w3 := g3 _ _ hB (below_then h1 (by omega) hb2)
  refine ⟨h2.os, h2.tape, h2.output, by have := hb2.size; omega, fun k hk1 hk2 => ?_⟩
  rw [g2 k (by omega), hb2.block k (by omega), HHEAP.out]
  exact HBLK.out k hk1 (fun e => hk2 (by rw [e]))
 | succ k =>
  rw [show (((k + 1 : Nat) : Int) - 1) = (k : Int) by omega]
  have hrx0 := HK.out.at_ (i := k) (by omega)
  obtain ⟨_, _, r, hA, _, hx, _, hr⟩ := hrx0
  injection hA with hA
  injection hA with h1 h2 _
  subst h1 h2
  rw [List.getElem?_map, Option.map_eq_some_iff] at hx
  obtain ⟨x, hx, rfl⟩ := hx
  have hry0 := HK.out.at_ (i := k + 1) (by omega)
  obtain ⟨_, _, r, hA, _, hy, _, hr2⟩ := hry0
  injection hA with hA
  injection hA with h1 h2 _
  subst h1 h2
  rw [List.getElem?_map, Option.map_eq_some_iff] at hy
  obtain ⟨y, hy, rfl⟩ := hy
  have hne := HD.out k x y hx hy
  rw [Nat.zero_add] at hr hr2
  have hrx : wo.rangeAt g (k * 5) (enc5 x) := fun t u ht => (cell_heap HHEAP.out _).trans (hr t u ht)
  have hk0 : wo.cell? ⟨g, k * 5, none⟩ = some (.string x.key) := by have := hrx 0 _ rfl; rwa [Nat.add_zero] at this
  have hk1 : wo.cell? ⟨g, (k + 1) * 5, none⟩ = some (.string y.key) := by have := (cell_heap HHEAP.out _).trans (hr2 0 _ rfl); rwa [Nat.add_zero] at this
  have heq : (x.key.toList == y.key.toList) = false := by simpa using hne
  have hth : wo.there g (k * 5) 5 := fun t ht => ⟨by rw [hrx t _ (List.getElem?_eq_getElem (show t < (enc5 x).length from ht))]; rfl, (frozen_heap HHEAP.out _).trans (HFR.out k t (by omega) ht)⟩
  have HTH := Lib.hid hth
  have HRX := Lib.hid hrx
  clear hth
  clear hx hy hr hr2 hrx
  have i0 : (0 : Int) ≤ (k : Int) := by omega
  have i1 : (k : Int) < ((N + 1 : Nat) : Int) := by omega
  have i2 : (0 : Int) ≤ ((k + 1 : Nat) : Int) := by omega
  have i3 : ((k + 1 : Nat) : Int) < ((N + 1 : Nat) : Int) := by omega
  go_upto_region 8 with fail
  go_quiet (fail)
  go_upto_region 10 with fail
  refine wp_region_held_drew (S := fun w' => w'.rangeAt g (k * 5) (enc5 x) ∧ w'.there g (k * 5) 5) (by kernel_rfl) ⟨HRX.out, HTH.out⟩ (fun hHeld => ?_)
  refine tk 0 37 (v := .slice (some ⟨g, 0, none⟩) (N + 1) cap) (a' := ?_) rfl rfl ?_ ?_ rfl ?_
  rotate_left 1
  · intro w2 hSw; go_simp
  · simp only [sI, s0, sS]; exact rfl
  refine tk 1 38 (v := .int .i64 (k : Int)) (a' := ?_) rfl rfl ?_ ?_ rfl ?_
  rotate_left 1
  · intro w2 hSw; go_simp
  · simp only [sI, s0, sS]; exact rfl
  refine tk 2 39 (v := .slice (some ⟨g, 0, none⟩) (N + 1) cap) (a' := ?_) rfl rfl ?_ ?_ rfl ?_
  rotate_left 1
  · intro w2 hSw; go_simp
  · simp only [sI, s0, sS]; exact rfl
  refine tk 3 40 (v := .int .i64 (k : Int)) (a' := ?_) rfl rfl ?_ ?_ rfl ?_
  rotate_left 1
  · intro w2 hSw; go_simp
  · simp only [sI, s0, sS]; exact rfl
  refine tk 4 41 (v := .slice (some ⟨g, 0, none⟩) (N + 1) cap) (a' := ?_) rfl rfl ?_ ?_ rfl ?_
  rotate_left 1
  · intro w2 hSw; go_simp
  · simp only [sI, s0, sS]; exact rfl
  refine tk 5 42 (v := .int .i64 (k : Int)) (a' := ?_) rfl rfl ?_ ?_ rfl ?_
  rotate_left 1
  · intro w2 hSw; go_simp
  · simp only [sI, s0, sS]; exact rfl
  refine tk 6 43 (v := .pointer (some ⟨g, k * 5, none⟩)) (a' := ?_) rfl rfl ?_ ?_ rfl ?_
  rotate_left 1
  · intro w2 hSw; go_simp; intro h; omega
  · simp only [sI, s0, sS]; exact rfl
  refine tk 7 44 (v := .agg (enc5 x).toArray) (a' := ?_) rfl rfl ?_ ?_ rfl ?_
  rotate_left 1
  · intro w2 hSw; exact run_load_at rfl hSw.1 rfl Tryz.underlying87 rfl info87
  · simp only [sI, s0, sS]; exact rfl
  refine tk 8 45 (v := .slice (some ⟨g, 0, none⟩) (N + 1) cap) (a' := ?_) rfl rfl ?_ ?_ rfl ?_
  rotate_left 1
  · intro w2 hSw; go_simp
  · simp only [sI, s0, sS]; exact rfl
  refine tk 9 46 (v := .int .i64 (k : Int)) (a' := ?_) rfl rfl ?_ ?_ rfl ?_
  rotate_left 1
  · intro w2 hSw; go_simp
  · simp only [sI, s0, sS]; exact rfl
  refine tk 10 47 (v := .pointer (some ⟨g, k * 5, none⟩)) (a' := ?_) rfl rfl ?_ ?_ rfl ?_
  rotate_left 1
  · intro w2 hSw; go_simp; intro h; omega
  · simp only [sI, s0, sS]; exact rfl
  refine tk 11 48 (v := .agg (enc5 x).toArray) (a' := ?_) rfl rfl ?_ ?_ rfl ?_
  rotate_left 1
  · intro w2 hSw; exact run_load_at rfl hSw.1 rfl Tryz.underlying87 rfl info87
  · simp only [sI, s0, sS]; exact rfl
  refine tk 12 49 (v := .pointer (some ⟨g, k * 5, none⟩)) (a' := ?_) rfl rfl ?_ ?_ rfl ?_
  rotate_left 1
  · intro w2 hSw; go_simp; intro h; omega
  · simp only [sI, s0, sS]; exact rfl
  refine wpAnyH_ready (rs := [13]) (by kernel_rfl) (by simp) ?_
  refine ar1 rfl (fun K hK => ?_)
  refine store_noop 87 (.tmp 49) (.tmp 44) rfl rfl (cs := (enc5 x).toArray) (b := g) (o := k * 5) rfl rfl hHeld.1 hHeld.2 info87 rfl _ (by kernel_rfl) ?_
  refine hK.out _ _ hHeld (fun hHeld => ?_)
  clear hK K
  refine tk 14 50 (v := .pointer (some ⟨g, k * 5, none⟩)) (a' := ?_) rfl rfl ?_ ?_ rfl ?_
  rotate_left 1
  · intro w2 hSw; go_simp; intro h; omega
  · simp only [sI, s0, sS]; exact rfl
  refine wpAnyH_ready (rs := [15]) (by kernel_rfl) (by simp) ?_
  refine ar1 rfl (fun K hK => ?_)
  refine store_noop 87 (.tmp 50) (.tmp 48) rfl rfl (cs := (enc5 x).toArray) (b := g) (o := k * 5) rfl rfl hHeld.1 hHeld.2 info87 rfl _ (by kernel_rfl) ?_
  refine hK.out _ _ hHeld (fun hHeld => ?_)
  clear hK K
  refine wpAnyH_done (by kernel_rfl) ?_ _
  go_wp2_with fail
  go_roundw
  case rel => exact ⟨k, by omega, rfl, by go_num, HHEAP.out, below_drew (below_drewN HBW.out _)⟩
  case measure => simp [intOf])
end
section
/-! ### Sorted attributes -/
section
open Lib Go.Sort
theorem cb_refl : ∀ (a : List UInt8), compareBytes a a = 0
 | [] => rfl
 | x :: a => by
  rw [compareBytes, if_neg (by simp [UInt8.lt_irrefl]), if_neg (by simp [UInt8.lt_irrefl])]
  exact cb_refl a
theorem u8_tri {a b : UInt8} (h1 : ¬ a < b) (h2 : ¬ b < a) : a = b := by
 rw [UInt8.lt_iff_toNat_lt] at h1 h2
 exact UInt8.toNat_inj.1 (by omega)
theorem cb_eq : ∀ {a b : List UInt8}, compareBytes a b = 0 → a = b
 | [], [], _ => rfl
 | [], _ :: _, h => by simp [compareBytes] at h
 | _ :: _, [], h => by simp [compareBytes] at h
 | x :: a, y :: b, h => by
  rw [compareBytes] at h
  split at h
  · cases h
  · (
  split at h
  · cases h
  · rename_i h1 h2
    rw [u8_tri h1 h2, cb_eq h])
theorem cb_anti : ∀ (a b : List UInt8), compareBytes b a = - compareBytes a b
 | [], [] => rfl
 | [], _ :: _ => rfl
 | _ :: _, [] => rfl
 | x :: a, y :: b => by
  rw [compareBytes, compareBytes]
  by_cases h1 : x < y
  · have h2 : ¬ y < x := by rw [UInt8.lt_iff_toNat_lt] at h1 ⊢; omega
    rw [if_neg h2, if_pos h1, if_pos h1]; rfl
  · (
  by_cases h2 : y < x
  · rw [if_pos h2, if_neg h1, if_pos h2]
  · rw [if_neg h2, if_neg h1, if_neg h1, if_neg h2]
    exact cb_anti a b)
theorem cb_trans : ∀ {a b c : List UInt8}, compareBytes a b < 0 → compareBytes b c < 0 → compareBytes a c < 0
 | [], [], _, h, _ => by simp [compareBytes] at h
 | _ :: _, [], _, h, _ => by simp [compareBytes] at h
 | [], _ :: _, [], _, h => by simp [compareBytes] at h
 | [], _ :: _, _ :: _, _, _ => by simp [compareBytes]
 | _ :: _, _ :: _, [], _, h => by simp [compareBytes] at h
 | x :: a, y :: b, z :: c, h, k => by
  rw [compareBytes] at h k ⊢
  by_cases h1 : x < y
  · (
  by_cases k1 : y < z
  · have : x < z := by rw [UInt8.lt_iff_toNat_lt] at h1 k1 ⊢; omega
    rw [if_pos this]; decide
  · (
  rw [if_neg k1] at k
  by_cases k2 : z < y
  · rw [if_pos k2] at k; simp at k
  · (
  have := u8_tri k1 k2
  subst this
  rw [if_pos h1]; decide)))
  · (
  rw [if_neg h1] at h
  by_cases h2 : y < x
  · rw [if_pos h2] at h; simp at h
  · (
  have := u8_tri h1 h2
  subst this
  rw [if_neg h2] at h
  by_cases k1 : x < z
  · rw [if_pos k1]; decide
  · (
  rw [if_neg k1] at k ⊢
  by_cases k2 : z < x
  · rw [if_pos k2] at k; simp at k
  · rw [if_neg k2] at k ⊢
    exact cb_trans h k)))
theorem ltk_iff {x y : KV} : ltOf cmpK x y = true ↔ compareBytes x.key.data.toList y.key.data.toList < 0 := by
 unfold ltOf
 exact decide_eq_true_iff
theorem ltk_not {x y : KV} : ltOf cmpK x y = false ↔ ¬ compareBytes x.key.data.toList y.key.data.toList < 0 := by
 unfold ltOf
 exact decide_eq_false_iff_not
theorem swoK : Sort.SWO (ltOf cmpK) where
 irrefl x := ltk_not.2 (by rw [cb_refl]; decide)
 trans x y z h k := ltk_iff.2 (cb_trans (ltk_iff.1 h) (ltk_iff.1 k))
 ntrans x y z h k := by
  have h := ltk_not.1 h
  have k := ltk_not.1 k
  refine ltk_not.2 fun hn => ?_
  have e1 := cb_anti x.key.data.toList y.key.data.toList
  have e2 := cb_anti y.key.data.toList z.key.data.toList
  have e3 := cb_anti x.key.data.toList z.key.data.toList
  by_cases h0 : compareBytes y.key.data.toList x.key.data.toList = 0
  · (
  have := cb_eq h0
  rw [← this] at hn
  exact k hn)
  · (
  by_cases k0 : compareBytes z.key.data.toList y.key.data.toList = 0
  · (
  have := cb_eq k0
  rw [this] at hn
  exact h hn)
  · have := cb_trans (a := z.key.data.toList) (b := y.key.data.toList) (c := x.key.data.toList) (by omega) (by omega)
    omega)
theorem perm_sortK (l : List KV) : (sortK l).Perm l := by
 obtain ⟨⟨h1, _, h3⟩, _⟩ := Sort.insertionSort_holds (lt := ltOf cmpK) swoK l.toArray 0 l.toArray.size (Nat.zero_le _) (Nat.le_refl _)
 unfold sortK sortA
 have e1 : (Sort.insertionSort (ltOf cmpK) l.toArray 0 l.toArray.size).extract 0 l.toArray.size = Sort.insertionSort (ltOf cmpK) l.toArray 0 l.toArray.size := by
  have : ∀ (D : Array KV) (n : Nat), D.size = n → D.extract 0 n = D := fun D n hn => by subst hn; exact Array.extract_size ..
  exact this _ _ h1
 have e2 : l.toArray.extract 0 l.toArray.size = l.toArray := Array.extract_size ..
 rw [e1, e2] at h3
 exact h3
theorem sorted_sortK (l : List KV) (i j : Nat) (x y : KV) (hij : i < j) (hx : (sortK l)[i]? = some x) (hy : (sortK l)[j]? = some y) : ¬ cmpK y x < 0 := by
 obtain ⟨⟨h1, _, _⟩, h2⟩ := Sort.insertionSort_holds (lt := ltOf cmpK) swoK l.toArray 0 l.toArray.size (Nat.zero_le _) (Nat.le_refl _)
 unfold sortK sortA at hx hy
 rw [Array.getElem?_toList] at hx hy
 obtain ⟨hj, ej⟩ := Array.getElem?_eq_some_iff.1 hy
 obtain ⟨hi, ei⟩ := Array.getElem?_eq_some_iff.1 hx
 have := h2 i j (Nat.zero_le _) hij (by rw [← h1]; exact hj)
 rw [getElem!_pos _ j hj, getElem!_pos _ i hi, ei, ej] at this
 simpa [ltOf] using this
end
/-- Attributes with keys of their own. -/
def Apart (l : List KV) : Prop := l.Pairwise fun x y => x.key ≠ y.key
theorem apart_perm {l l' : List KV} (h : l.Perm l') (ha : Apart l) : Apart l' := (h.pairwise_iff fun hxy => Ne.symm hxy).1 ha
theorem key_of_cmp {x y : KV} (h : cmpK x y = 0) : x.key = y.key := by
 have h1 := cb_eq h
 exact ByteArray.ext (Array.toList_inj.1 h1)
theorem pairwise_sortK {l : List KV} (ha : Apart l) : (sortK l).Pairwise fun x y => cmpK x y < 0 := by
 have hap := apart_perm (perm_sortK l).symm ha
 rw [List.pairwise_iff_getElem]
 intro i j hi hj hij
 have h1 := sorted_sortK l i j _ _ hij (List.getElem?_eq_getElem hi) (List.getElem?_eq_getElem hj)
 have h2 := (List.pairwise_iff_getElem.1 hap) i j hi hj hij
 have h3 : cmpK (sortK l)[j] (sortK l)[i] = - cmpK (sortK l)[i] (sortK l)[j] := cb_anti _ _
 have h4 : cmpK (sortK l)[i] (sortK l)[j] ≠ 0 := fun e => h2 (key_of_cmp e)
 omega
theorem sortK_unique {l l' : List KV} (h : l.Perm l') (ha : Apart l) : sortK l = sortK l' := by
 have hp : (sortK l).Perm (sortK l') := (perm_sortK l).trans (h.trans (perm_sortK l').symm)
 refine List.Perm.eq_of_pairwise (le := fun x y => cmpK x y < 0) ?_ (pairwise_sortK ha) (pairwise_sortK (apart_perm h ha)) hp
 intro x y _ _ h1 h2
 have : cmpK y x = - cmpK x y := cb_anti _ _
 omega
end
section
theorem c54 (w : World) : Calls Tryz.prog 54 #[] w fun e w' => e = .returned (.int .u64 (sum64 [])) ∧ Below w.heap.size w w' := by
 go_enter Tryz.func54, Tryz.ntmps54
 go_wp2_with (first
  | (go_at_call 92; refine (c92 _).mono ?_; rintro e w1 ⟨q, rfl, hd, hb⟩)
  | (go_at_call 93; refine (c93 _ q [] _ hd (by simp)).mono ?_; rintro e w2 ⟨rfl, hb2⟩))
 go_ret
 exact ⟨rfl, below_then hb hb.size hb2⟩
theorem c55 (w : World) : Calls Tryz.prog 55 #[] w fun e w' => ∃ s : Sl, e = .returned (.agg #[.int .u64 (hashL []), .slice s.A s.n s.c]) ∧ SetNew w w' s [] ∧ Below w.heap.size w w' := by
 obtain ⟨W0, hW0⟩ : ∃ W0, W0 = w.alloc (.cells #[.int .u64 0, .slice none 0 0] 80) := ⟨_, rfl⟩
 have hb : Below w.heap.size w W0 := ba hW0
 have hzb : W0.heap[w.heap.size]? = some (.cells #[.int .u64 0, .slice none 0 0] 80 (0, 0)) := by rw [hW0]; exact heap_alloc_new w _
 have hs0 : w.heap.size < W0.heap.size := by rw [hW0]; simp
 have HW := Lib.hid hW0
 have HB := Lib.hid hb
 have HZB := Lib.hid hzb
 clear hW0 hb hzb
 go_enter Tryz.func55, Tryz.ntmps55
 go_upto_region 1 with fail
 rw [← HW.out]
 go_wp2_with (first
  | (go_at_call 54; refine (c54 _).mono ?_; rintro e w1 ⟨rfl, hb1⟩; have hz1 : w1.heap[w.heap.size]? = _ := (hb1.block _ hs0).trans HZB.out; have hz2 : (w1.alloc (.cells #[] 87)).heap[w.heap.size]? = _ := (Below.heap_alloc _ _ _ (Array.getElem?_eq_some_iff.1 hz1).1).trans hz1)
  | ((with_reducible apply arm_store_whole 2 info80 hz2); rfl; rfl; rfl; rfl; rfl; intro w3 g1 g2 g3 g4))
 have h1 := hb1.size
 refine bodyPost_ret (results_cell_row rfl _ _ _ _ _ _ _ rfl g1 Tryz.underlying80 rfl info80) rfl ⟨⟨some ⟨w1.heap.size, 0, none⟩, 0, 0⟩, rfl, ⟨⟨⟨rfl, Nat.le_refl _, Nat.zero_le _, Nat.zero_le _, by simp, fun h => absurd h (Nat.lt_irrefl 0)⟩, by simp, by simp, by simp⟩, ?_⟩, g3 _ _ (Nat.le_refl _) ((below_then HB.out HB.out.size hb1).alloc (by omega) _)⟩
 intro b o t h
 injection h with h
 injection h with h _ _
 omega
set_option maxHeartbeats 1000000 in
theorem c51_nil (A : Option Addr) (c : Nat) (w : World) :
 Calls Tryz.prog 51 #[.slice A 0 c, .nilFunc] w fun e w' => ∃ s : Sl, e = .returned (.tuple #[.agg #[.int .u64 (hashL []), .slice s.A s.n s.c], .slice none 0 0]) ∧ SetNew w w' s [] ∧ Below w.heap.size w w' := by
 obtain ⟨W0, hW0⟩ : ∃ W0, W0 = w.alloc (.cells #[.int .u64 0, .slice none 0 0] 80) := ⟨_, rfl⟩
 have hb : Below w.heap.size w W0 := ba hW0
 have hzb : W0.heap[w.heap.size]? = some (.cells #[.int .u64 0, .slice none 0 0] 80 (0, 0)) := by rw [hW0]; exact heap_alloc_new w _
 have hs0 : w.heap.size < W0.heap.size := by rw [hW0]; simp
 have HW := Lib.hid hW0
 have HB := Lib.hid hb
 have HZB := Lib.hid hzb
 clear hW0 hb hzb
 go_enter Tryz.func51, Tryz.ntmps51
 go_upto_region 1 with fail
 rw [← HW.out]
 go_wp2_with (first
  | (go_at_call 55; refine (c55 _).mono ?_; rintro e w2 ⟨s, rfl, hset, hb2⟩; have hz2 : w2.heap[w.heap.size]? = _ := (hb2.block _ hs0).trans HZB.out)
  | ((with_reducible apply arm_store_whole 2 info80 hz2); rfl; rfl; rfl; rfl; rfl; intro w3 g1 g2 g3 g4))
 exact bodyPost_ret (results_row_tmp rfl _ _ _ _ _ _ _ rfl g1 Tryz.underlying80 rfl info80) rfl ⟨s, rfl, (hset.stored hs0 g2 g4).older (Nat.le_of_lt hs0), g3 _ _ (Nat.le_refl _) (below_then HB.out HB.out.size hb2)⟩
theorem grownBy_of_below {w w1 : World} (h : Below w.heap.size w w1) (row : Option Nat) : w.grownBy w1 row := ⟨h.os, h.tape, h.output, h.size, fun k hk _ => h.block k hk⟩
theorem grownBy_trans {w w1 w2 : World} {row : Option Nat} (h : w.grownBy w1 row) (k : w1.grownBy w2 row) : w.grownBy w2 row :=
 ⟨k.os.trans h.os, k.tape.trans h.tape, k.output.trans h.output, Nat.le_trans h.size k.size, fun b hb hn => (k.block b (Nat.lt_of_lt_of_le hb h.size) hn).trans (h.block b hb hn)⟩
theorem grownBy_stored {w w1 w2 : World} {row : Option Nat} (h : w.grownBy w1 row) {x : Nat} (hx : w.heap.size ≤ x) (hk : ∀ b, b ≠ x → w2.heap[b]? = w1.heap[b]?) (hs : w2.heap.size = w1.heap.size) (h3 : Below 0 w1 w2) : w.grownBy w2 row :=
 ⟨h3.os.trans h.os, h3.tape.trans h.tape, h3.output.trans h.output, by rw [hs]; exact h.size, fun b hb hn => (hk b (by omega)).trans (h.block b hb hn)⟩
set_option maxHeartbeats 1000000 in
theorem c34_of (v : Value) (row : Option Nat) (S : List KV) (H : Int) (w : World) (hrow : ∀ g, row = some g → g < w.heap.size)
 (C : ∀ W, Below w.heap.size w W → Calls Tryz.prog 51 #[v, .nilFunc] W fun e w' => ∃ s : Sl, e = .returned (.tuple #[.agg #[.int .u64 H, .slice s.A s.n s.c], .slice none 0 0]) ∧ SetNew W w' s S ∧ W.grownBy w' row) :
 Calls Tryz.prog 34 #[v] w fun e w' => ∃ s : Sl, e = .returned (.agg #[.int .u64 H, .slice s.A s.n s.c]) ∧ SetNew w w' s S ∧ w.grownBy w' row := by
 obtain ⟨W0, hW0⟩ : ∃ W0, W0 = w.alloc (.cells #[.int .u64 0, .slice none 0 0] 80) := ⟨_, rfl⟩
 have hb : Below w.heap.size w W0 := ba hW0
 have hzb : W0.heap[w.heap.size]? = some (.cells #[.int .u64 0, .slice none 0 0] 80 (0, 0)) := by rw [hW0]; exact heap_alloc_new w _
 have hs0 : w.heap.size < W0.heap.size := by rw [hW0]; simp
 have hne : some w.heap.size ≠ row := fun e => by have := hrow _ e.symm; omega
 have HW := Lib.hid hW0
 have HB := Lib.hid hb
 have HZB := Lib.hid hzb
 have C0 := Lib.hid (C W0 hb)
 clear hW0 hb hzb C
 go_enter Tryz.func34, Tryz.ntmps34
 go_upto_region 1 with fail
 rw [← HW.out]
 go_wp2_with (first
  | (go_at_call 51; refine C0.out.mono ?_; rintro e w2 ⟨s, rfl, hset, hg2⟩; have hz2 := (hg2.block _ hs0 hne).trans HZB.out; have hz3 : (w2.alloc (.cells #[.int .u64 H, .slice s.A s.n s.c] 80)).heap[w.heap.size]? = _ := (Below.heap_alloc _ _ _ (Array.getElem?_eq_some_iff.1 hz2).1).trans hz2)
  | ((with_reducible apply arm_store_new 2 info80); rfl; simp; rfl; rfl; rfl; rfl)
  | ((with_reducible apply arm_load_top 2 info80 Tryz.underlying80); rfl; rfl; simp; rfl)
  | ((with_reducible apply arm_store_whole 2 info80 hz3); rfl; rfl; rfl; rfl; rfl; intro w3 g1 g2 g3 g4))
 have hs2 := hg2.size
 refine bodyPost_ret (results_cell_row rfl _ _ _ _ _ _ _ rfl g1 Tryz.underlying80 rfl info80) rfl ⟨s, rfl, ?_, ?_⟩
 · exact ((hset.below ((Below.refl _ _).alloc (Nat.le_refl _) _)).stored hs0 g2 g4).older (Nat.le_of_lt hs0)
 · exact grownBy_stored (grownBy_trans (grownBy_of_below HB.out row) (grownBy_trans hg2 (World.grownBy_alloc _ _ _))) (Nat.le_refl _) g2 g4 (g3 0 _ (Nat.zero_le _) (Below.refl _ _))
end
section
theorem info58 : (Tryz.prog.info? 58).map (·.size) = some 2 := by kernel_rfl
/-- Attributes that a set is made of. -/
structure AttrsOk (l : List KV) : Prop where
 str : ∀ x ∈ l, IsStr x
 small : ∀ x ∈ l, x.key.size ≤ 100 ∧ x.str.size ≤ 100
 apart : Apart l
 len : l.length ≤ 8
theorem AttrsOk.sorted {l : List KV} (h : AttrsOk l) : AttrsOk (sortK l) :=
 ⟨fun x hx => h.str x ((perm_sortK l).subset hx), fun x hx => h.small x ((perm_sortK l).subset hx), apart_perm (perm_sortK l).symm h.apart, by rw [length_sortK]; exact h.len⟩
theorem hashL_sort {l : List KV} (h : l ≠ []) : hashKVs (sortK l) = hashL (sortK l) := by
 unfold hashL
 rw [if_neg]
 intro e
 have := length_sortK l
 rw [e] at this
 exact h (List.eq_nil_of_length_eq_zero this.symm)
set_option maxRecDepth 100000 in
set_option maxHeartbeats 2000000 in
theorem c36 (A : Option Addr) (n c : Nat) (l : List KV) (w : World) (h : Rd w w.heap.size 2 A n c (l.map enc2)) (ho : AttrsOk l) :
 Calls Tryz.prog 36 #[.slice A n c] w fun e w' => ∃ s : Sl, e = .returned (.agg #[.int .u64 (hashL (sortK l)), .slice s.A s.n s.c]) ∧ SetNew w w' s (sortK l) ∧ Below w.heap.size w w' := by
 have hlen := h.numlen
 have hn8 : n ≤ 8 := by have := ho.len; omega
 obtain ⟨W0, hW0⟩ : ∃ W0, W0 = w.alloc (.cells #[.int .u64 0, .slice none 0 0] 80) := ⟨_, rfl⟩
 have hb : Below w.heap.size w W0 := ba hW0
 have hzb : W0.heap[w.heap.size]? = some (.cells #[.int .u64 0, .slice none 0 0] 80 (0, 0)) := by rw [hW0]; exact heap_alloc_new w _
 have hs0 : w.heap.size < W0.heap.size := by rw [hW0]; simp
 obtain ⟨i0, hi, hz0, hz1, hz2⟩ := info_parts3 info87z
 have HI := Lib.hid (And.intro hi (And.intro hz0 (And.intro hz1 hz2)))
 have HR := Lib.hid ((h.below hb).more hb.size)
 have HO := Lib.hid ho
 have HLEN := Lib.hid hlen
 have HW := Lib.hid hW0
 have HB := Lib.hid hb
 have HZB := Lib.hid hzb
 clear hW0 hb hzb hi hz0 hz1 hz2 h ho hlen
 go_enter Tryz.func36, Tryz.ntmps36
 go_upto_region 3 with fail
 rw [← HW.out]
 go_loopw [3, 8] (fun v i wr => ∃ k : Nat, k ≤ n ∧ i = .int .i64 k ∧ wr.ownsRow W0.heap.size 87 5 v k ((l.take k).map enc5).flatten ∧ Below W0.heap.size W0 wr) (fun _ i _ => n - (intOf i).toNat)
 case atStart => exact ⟨0, Nat.zero_le _, rfl, World.ownsRow_nil _ _ _ _, Below.refl _ _⟩
 case round => (
 obtain ⟨k, hk, rfl, hown, hbw⟩ := hrel
 obtain ⟨wo, rfl⟩ : ∃ wo : World, wo = wr := ⟨_, rfl⟩
 have hbs := hbw.size
 have HOWN := Lib.hid hown
 have HBW := Lib.hid hbw
 obtain ⟨vA, vc, rfl⟩ := own_slice hown
 by_cases hlt : k < n
 · (
 obtain ⟨b, o, r, rfl, hbB, hx, _, ca⟩ := (HR.out.below hbw).at_ hlt
 rw [List.getElem?_map, Option.map_eq_some_iff] at hx
 obtain ⟨x, hx, rfl⟩ := hx
 obtain ⟨cx, hcx⟩ : ∃ cx, cx = (enc2 x).toArray := ⟨_, rfl⟩
 have sx : cx.size = 2 := by rw [hcx]; rfl
 have oc1 : cx.toList.all (·.oneCell') = true := by rw [hcx]; rfl
 have ca2 : wo.rangeAt b (o + k * 2) cx.toList := by rw [hcx]; exact ca
 have hbn : Below wo.heap.size wo (wo.alloc (.cells cx 58)) := (Below.refl _ _).alloc (Nat.le_refl _) _
 have z1 : (wo.alloc (.cells cx 58)).heap[wo.heap.size]? = some (.cells cx 58 (0, 0)) := heap_alloc_new wo _
 have q1 : (wo.alloc (.cells cx 58)).cell? ⟨wo.heap.size, 0, none⟩ = some (.string x.key) := blk_cell z1 0 _ (by rw [hcx]; rfl)
 have q2 : (wo.alloc (.cells cx 58)).cell? ⟨wo.heap.size, 1, none⟩ = some (.string x.str) := blk_cell z1 1 _ (by rw [hcx]; rfl)
 have hxe := isStr_eq (HO.out.str x (List.mem_of_getElem? hx))
 have C : Hid (Calls Tryz.prog 53 #[.string x.key, .string x.str] (wo.alloc (.cells cx 58)) fun e w' => e = .returned (.agg #[.string x.key, .int .i64 4, .int .u64 0, .string x.str, .nilIface]) ∧ Below (wo.alloc (.cells cx 58)).heap.size (wo.alloc (.cells cx 58)) w') := c53 x.key x.str (wo.alloc (.cells cx 58))
 have hx5 : enc5 x = [.string x.key, .int .i64 4, .int .u64 0, .string x.str, .nilIface] := by rw [hxe]; rfl
 have HX5 := Lib.hid hx5
 have htk : (l.take (k + 1)).map enc5 = (l.take k).map enc5 ++ [enc5 x] := by
  obtain ⟨hk', rfl⟩ := List.getElem?_eq_some_iff.1 hx
  rw [List.take_succ_eq_append_getElem hk', List.map_append]
  rfl
 have HTK := Lib.hid htk
 have HBN := Lib.hid hbn
 have hi0 : (0 : Int) ≤ (k : Int) := by omega
 have hi1 : (k : Int) < (n : Int) := by omega
 clear hx hcx ca hbn hxe hown hbw htk hx5
 go_wp2_with (first
  | ((with_reducible refine arm_load ca2 ?_ 2 info58 Tryz.underlying58 ?_ ?_ ?_); rfl; rfl; exact sx)
  | ((with_reducible apply arm_store_new 2 info58); rfl; simp; rfl; rfl; assumption; assumption)
  | (go_at_call 53; refine C.out.mono ?_; rintro e w1 ⟨rfl, hb1⟩)
  | (at_builtin; go_loud ((refine wpList_append_own_at _ rfl _ _ 78 rfl W0.heap.size 87 i0 _ 5 64 Tryz.underlying78 HI.out.1 HI.out.2.1 HI.out.2.2.1 HI.out.2.2.2 rfl (by decide) _ k _ rfl (own_of_block HOWN.out (fun g hg => ((Below.heap_alloc _ _ _ (by have := (HOWN.out.lt g hg).2; have := hb1.size; rw [World.size_alloc] at this; omega)).trans ((hb1.block g (by have := (HOWN.out.lt g hg).2; rw [World.size_alloc]; omega)).trans (HBN.out.block g (HOWN.out.lt g hg).2))))) ⟨w1.heap.size, 0, none⟩ 1 1 (enc5 x) rfl rfl ?_ (by rw [HX5.out]; simp [Value.oneCell']) ?_ ?_ ?_ ?_); (rw [HX5.out]; intro j u hj; rw [Addr.add_mid, Nat.zero_add]; exact blk_cell (heap_alloc_new w1 _) j u (by simpa using hj)); (simp only [maxLen]; omega); omega; (have := hb1.size; rw [World.size_alloc] at this; rw [World.size_alloc]; omega); intro v2 w2 hown2 hg2 _ _)))
 go_roundw
 case rel => (
 refine ⟨k + 1, by omega, by go_num, ?_, ?_⟩
 · rw [HTK.out]
   simpa using hown2
 · have h1 : Below W0.heap.size W0 w1 := (HBW.out.trans (HBN.out.mono hbs)).trans (hb1.mono (by rw [World.size_alloc]; omega))
   exact (h1.alloc h1.size _).grown hg2 (by rw [World.size_alloc]; have := h1.size; omega) (fun g hg => (HOWN.out.lt g hg).1))
 case measure => simp [intOf]; omega)
 · (
 have hkn : k = n := by omega
 have hlen := HLEN.out
 have htk : l.take k = l := List.take_of_length_le (by omega)
 have C34 : Hid (Calls Tryz.prog 34 #[.slice vA k vc] wo fun e w' => ∃ s : Sl, e = .returned (.agg #[.int .u64 (hashL (sortK l)), .slice s.A s.n s.c]) ∧ SetNew wo w' s (sortK l) ∧ Below W0.heap.size wo w') := by
  rcases Nat.eq_zero_or_pos k with h0 | h0
  · (
  subst h0
  have hl0 : l = [] := List.eq_nil_of_length_eq_zero (by omega)
  rw [hl0, sortK_nil]
  refine (c34_of (.slice vA 0 vc) none [] (hashL []) wo (fun g hg => by cases hg) (fun W _ => (c51_nil vA vc W).mono ?_)).mono ?_
  · rintro e w2 ⟨s, h1, h2, h3⟩
    exact ⟨s, h1, h2, grownBy_of_below h3 none⟩
  · rintro e w2 ⟨s, h1, h2, h3⟩
    exact ⟨s, h1, h2, (Below.refl W0.heap.size wo).grown h3 hbs (fun g hg => by cases hg)⟩)
  · (
  obtain ⟨g, cap, hv, hg1, hg2, hg3, hg4⟩ := own_some hown h0
  injection hv with hv1 hv2 hv3
  subst hv1 hv3
  rw [htk] at hown
  have hso := HO.out.sorted
  have hne : l ≠ [] := by intro e; rw [e] at hlen; simp at hlen; omega
  have hpw := pairwise_sortK HO.out.apart
  rw [← hashL_sort hne]
  refine (c34_of (.slice (some ⟨g, 0, none⟩) k vc) (some g) (sortK l) (hashKVs (sortK l)) wo (fun g' hg' => by injection hg' with e; omega) (fun W hW => (c51 W0.heap.size g vc k l W (own_of_block hown (fun g' hg' => hW.block g' (hown.lt g' hg').2)) (Nat.le_trans hbs hW.size) (by omega) h0 (by omega) hso.str hso.small ?_).mono ?_)).mono ?_
  · (
  intro i x y hx hy he
  obtain ⟨h1, rfl⟩ := List.getElem?_eq_some_iff.1 hx
  obtain ⟨h2, rfl⟩ := List.getElem?_eq_some_iff.1 hy
  have := (List.pairwise_iff_getElem.1 hpw) i (i + 1) h1 h2 (by omega)
  unfold cmpK at this
  rw [← ByteArray.toList_eq, ← ByteArray.toList_eq, he, cb_refl] at this
  omega)
  · rintro e w2 ⟨s, h1, h2, h3⟩
    exact ⟨s, h1, h2, h3⟩
  · rintro e w2 ⟨s, h1, h2, h3⟩
    exact ⟨s, h1, h2, (Below.refl W0.heap.size wo).grown h3 hbs (fun g' hg' => by injection hg' with e; omega)⟩)
 have hzw : wo.heap[w.heap.size]? = some (.cells #[.int .u64 0, .slice none 0 0] 80 (0, 0)) := (hbw.block _ hs0).trans HZB.out
 have HZW := Lib.hid hzw
 have f3 : ¬ (k : Int) < (n : Int) := by omega
 have f4 : (k : Int) = (n : Int) := by omega
 clear hown hbw hzw htk hkn hlen
 go_wp2_with (first
  | (go_at_call 34; refine C34.out.mono ?_; rintro e w2 ⟨s, rfl, hset, hb2⟩; have hz2 : w2.heap[w.heap.size]? = _ := (hb2.block _ hs0).trans HZW.out)
  | ((with_reducible apply arm_store_whole 2 info80 hz2); rfl; rfl; rfl; rfl; rfl; intro w3 g1 g2 g3 g4))
 refine bodyPost_ret (results_cell_row rfl _ _ _ _ _ _ _ rfl g1 Tryz.underlying80 rfl info80) rfl ⟨s, rfl, (hset.stored (Nat.lt_of_lt_of_le hs0 hbs) g2 g4).older (by omega), g3 _ _ (Nat.le_refl _) ?_⟩
 exact (HB.out.trans (HBW.out.mono (Nat.le_of_lt hs0))).trans (hb2.mono (Nat.le_of_lt hs0))))
end
section
/-! ### Equality of sets -/
theorem bytes_eq {a b : ByteArray} (h : a.toList = b.toList) : a = b := by
 rw [ByteArray.toList_eq, ByteArray.toList_eq] at h
 exact ByteArray.ext (Array.toList_inj.1 h)
theorem keq_eq {x y : KV} (hx : IsStr x) (hy : IsStr y) (h : keq x y = true) : x = y := by
 obtain ⟨k, t, n, s⟩ := x
 obtain ⟨k', t', n', s'⟩ := y
 obtain ⟨rfl, rfl⟩ := hx
 obtain ⟨rfl, rfl⟩ := hy
 simp only [keq, Bool.and_eq_true, beq_iff_eq] at h
 rw [bytes_eq h.1, bytes_eq h.2]
theorem keqs_eq : ∀ {l1 l2 : List KV}, (∀ x ∈ l1, IsStr x) → (∀ x ∈ l2, IsStr x) → listEq keq l1 l2 = true → l1 = l2
 | [], [], _, _, _ => rfl
 | x :: l1, y :: l2, h1, h2, h => by
  simp only [listEq, Bool.and_eq_true] at h
  rw [keq_eq (h1 x (by simp)) (h2 y (by simp)) h.1, keqs_eq (fun z hz => h1 z (by simp [hz])) (fun z hz => h2 z (by simp [hz])) h.2]
 | [], _ :: _, _, _, h => by simp [listEq] at h
 | _ :: _, [], _, _, h => by simp [listEq] at h
theorem eql93 (x y : Int) (w : World) : (binOp .neq 93 (.agg #[.int .u64 x]) (.agg #[.int .u64 y])).run Tryz.prog w = .ok (.bool (x != y)) w := by
 have hS : Tryz.prog.underlying 93 = some (.struct (Tryz.prog.fieldsOf 93)) := by kernel_rfl
 have hp : Tryz.prog.stoodInHeld 93 = false := by kernel_rfl
 rw [run_neq_struct, show (10000 : Nat) = 9999 + 1 from rfl, run_equalIn_agg w 9999 93 _ _ hS hp]
 simp only [Program.fieldsOf, Tryz.underlying93]
 go_simp
 by_cases h : x = y <;> simp [h]
theorem c37 (b1 : Nat) (h : Int) (w : World) (hh : h ≠ 0) (x0 : w.cell? ⟨b1, 0, none⟩ = some (.int .u64 h)) :
 Calls Tryz.prog 37 #[.pointer (some ⟨b1, 0, none⟩)] w fun e w' => e = .returned (.agg #[.int .u64 h]) ∧ Below w.heap.size w w' := by
 have f1 : (h == 0) = false := by simpa using hh
 obtain ⟨W0, hW0⟩ : ∃ W0, W0 = w.alloc (.cells #[.int .u64 0] 93) := ⟨_, rfl⟩
 have hb : Below w.heap.size w W0 := ba hW0
 have hz : W0.heap[w.heap.size]? = some (.cells #[.int .u64 0] 93 (0, 0)) := by rw [hW0]; exact heap_alloc_new w _
 have x1 := cellk x0 hb
 have HW := Lib.hid hW0
 have HB := Lib.hid hb
 clear hW0 hb x0
 go_enter Tryz.func37, Tryz.ntmps37
 go_upto_region 1 with fail
 rw [← HW.out]
 go_wp2_with ((with_reducible apply arm_store_whole 1 info93 hz); rfl; rfl; rfl; rfl; rfl; intro w3 g1 g2 g3 g4)
 exact bodyPost_ret (results_cell_row rfl _ _ _ _ _ _ _ rfl g1 Tryz.underlying93 rfl info93) rfl ⟨rfl, g3 _ _ (Nat.le_refl _) HB.out⟩
set_option maxHeartbeats 1000000 in
theorem c38 (l1 l2 : List KV) (s1 s2 : Sl) (b1 b2 : Nat) (w : World) (h1 : SetR w w.heap.size s1 l1) (h2 : SetR w w.heap.size s2 l2)
 (x0 : w.cell? ⟨b1, 0, none⟩ = some (.int .u64 (hashL l1))) (x1 : w.cell? ⟨b1, 1, none⟩ = some (.slice s1.A s1.n s1.c)) (y0 : w.cell? ⟨b2, 0, none⟩ = some (.int .u64 (hashL l2))) (y1 : w.cell? ⟨b2, 1, none⟩ = some (.slice s2.A s2.n s2.c)) :
 Calls Tryz.prog 38 #[.pointer (some ⟨b1, 0, none⟩), .pointer (some ⟨b2, 0, none⟩)] w fun e w' => e = .returned (.bool (listEq keq l1 l2)) ∧ Below w.heap.size w w' := by
 have n1 := hashL_ne l1 sum64_nil
 have n2 := hashL_ne l2 sum64_nil
 obtain ⟨H1, hH1⟩ : ∃ H, H = hashL l1 := ⟨_, rfl⟩
 obtain ⟨H2, hH2⟩ : ∃ H, H = hashL l2 := ⟨_, rfl⟩
 rw [← hH1] at x0 n1
 rw [← hH2] at y0 n2
 have hfin : H1 ≠ H2 → listEq keq l1 l2 = false := fun hne => by
  cases hq : listEq keq l1 l2 with
  | false => rfl
  | true => exact absurd (by rw [hH1, hH2, keqs_eq h1.str h2.str hq]) hne
 have C1 := Lib.hid fun (W : World) (hW : Below w.heap.size w W) => c37 b1 H1 W n1 (cellk x0 hW)
 have C2 := Lib.hid fun (W : World) (hW : Below w.heap.size w W) => c37 b2 H2 W n2 (cellk y0 hW)
 have C56 := Lib.hid fun (W : World) (hW : Below w.heap.size w W) => c56 s1.A s2.A s1.n s2.n s1.c s2.c l1 l2 W ((h1.rd.below hW).more hW.size) ((h2.rd.below hW).more hW.size) h1.str h2.str
 have m1 : (H1 == 0) = false := by simpa using n1
 have m2 : (H2 == 0) = false := by simpa using n2
 have hq := eql93
 have X0 := Lib.hid x0
 have X1 := Lib.hid x1
 have Y0 := Lib.hid y0
 have Y1 := Lib.hid y1
 have HF := Lib.hid hfin
 generalize hL : listEq keq l1 l2 = L at C56 HF ⊢
 clear h1 h2 hH1 hH2 hfin hL n1 n2
 cases hd : H1 != H2 with
 | true =>
  have hne : H1 ≠ H2 := by simpa using hd
  have hLf := HF.out hne
  subst hLf
  clear hne
  go_enter Tryz.func38, Tryz.ntmps38
  go_wp2_with (first
   | (go_at_call_of 37 (Value.pointer (some ⟨b1, 0, none⟩)); refine (C1.out _ (Below.refl _ _)).mono ?_; rintro e w1 ⟨rfl, hb1⟩)
   | (go_at_call_of 37 (Value.pointer (some ⟨b2, 0, none⟩)); refine (C2.out _ hb1).mono ?_; rintro e w2 ⟨rfl, hb2⟩))
  go_ret
  exact ⟨rfl, below_then hb1 hb1.size hb2⟩
 | false =>
  go_enter Tryz.func38, Tryz.ntmps38
  go_upto_region 3 with (first
   | (go_at_call_of 37 (Value.pointer (some ⟨b1, 0, none⟩)); refine (C1.out _ (Below.refl _ _)).mono ?_; rintro e w1 ⟨rfl, hb1⟩)
   | (go_at_call_of 37 (Value.pointer (some ⟨b2, 0, none⟩)); refine (C2.out _ hb1).mono ?_; rintro e w2 ⟨rfl, hb2⟩))
  have hb := below_then hb1 hb1.size hb2
  have x0 := cellk X0.out hb
  have x1 := cellk X1.out hb
  have y0 := cellk Y0.out hb
  have y1 := cellk Y1.out hb
  have HB := Lib.hid hb
  clear hb hb1 hb2 hd
  go_upto_region 9 with fail
  first
   | (go_region_held3 (fun w' => w'.cell? ⟨b1, 1, none⟩ = some (.slice s1.A s1.n s1.c) ∧ w'.cell? ⟨b2, 1, none⟩ = some (.slice s2.A s2.n s2.c)) (first | exact ⟨x1, y1⟩ | exact ⟨cellk (w := w2.drew) x1 hb3, cellk (w := w2.drew) y1 hb3⟩)
    (first | (go_at_call 56; refine (C56.out _ (below_drew HB.out)).mono ?_; rintro e w3 ⟨rfl, hb3⟩)))
   | fail
  all_goals go_wp2_with fail
  all_goals go_ret
  all_goals exact ⟨rfl, below_then (below_drew HB.out) HB.out.size hb3⟩
end
end Go.Proofs.YtlpddogcnpokfaaGreatDoor
