/- Contracts of functions of the program, for the comparison of aggregations (part KR5). -/
import Derived.Test.YtlpddogcnpokfaaGreatDoorKB2
set_option linter.all false
namespace Go.Proofs.YtlpddogcnpokfaaGreatDoor
open Go.RowKit
/-! ### Two conversions into boxes of their own -/
theorem dotR_lt {w : World} {d : Dot} {s : Sl5} (h : DotR w w.heap.size d s) : ∀ t ∈ [s.a, s.b, s.k, s.p, s.n], ∀ b o sp, t.A = some ⟨b, o, sp⟩ → 0 < t.n → b < w.heap.size := by
 intro t ht b o sp e hn
 simp only [List.mem_cons, List.not_mem_nil, or_false] at ht
 rcases ht with rfl | rfl | rfl | rfl | rfl
 · exact rd_lt h.a e hn
 · exact rd_lt (t := s.b) h.b e hn
 · exact rd_lt (t := s.k) h.k e hn
 · exact rd_lt (t := s.p) h.p e hn
 · exact rd_lt (t := s.n) h.n e hn
structure Res (W : World) (X : List Nat) (l : List (Dot × Sl5)) (A : Option Addr) (n c : Nat) : Prop where
 ex : ∃ l' : List (Dot × Sl5), l'.map (·.1) = l.map (·.1) ∧ DotsR W W.heap.size A n c l' ∧ Off (fun b => b ∉ X) A n l'
theorem Res.below {W W' : World} {X : List Nat} {l : List (Dot × Sl5)} {A : Option Addr} {n c : Nat} (h : Res W X l A n c) (hb : Below W.heap.size W W') : Res W' X l A n c := by
 obtain ⟨l', h1, h2, h3⟩ := h.ex
 exact ⟨l', h1, (h2.below hb).more hb.size, h3⟩
theorem Res.alloc {W : World} {X : List Nat} {l : List (Dot × Sl5)} {A : Option Addr} {n c : Nat} (h : Res W X l A n c) (o : Obj) : Res (W.alloc o) (W.heap.size :: X) l A n c := by
 obtain ⟨l', h1, h2, h3⟩ := h.ex
 refine ⟨l', h1, (h2.below ((Below.refl _ _).alloc (Nat.le_refl _) _)).more (by simp), fun b o' t e hn => ?_, fun x hx t ht b o' sp e hn => ?_⟩
 · (
 have := rd_lt (t := ⟨A, n, c⟩) h2.rd e hn
 have h4 := h3.row b o' t e hn
 simp only [List.mem_cons, not_or]
 exact ⟨by omega, h4⟩)
 · (
 have := dotR_lt (h2.all x hx) t ht b o' sp e hn
 have h4 := h3.ins x hx t ht b o' sp e hn
 simp only [List.mem_cons, not_or]
 exact ⟨by omega, h4⟩)
theorem Res.store {W W' : World} {X : List Nat} {l : List (Dot × Sl5)} {A : Option Addr} {n c : Nat} (h : Res W X l A n c) {x : Nat} (hx : x ∈ X) (hk : ∀ b, b ≠ x → W'.heap[b]? = W.heap[b]?) (hs : W'.heap.size = W.heap.size) : Res W' X l A n c := by
 obtain ⟨l', h1, h2, h3⟩ := h.ex
 exact ⟨l', h1, h2.apart h3 (fun b _ hb => hk b (fun e => hb (e ▸ hx))) (by omega), h3⟩
theorem Res.conv {W : World} {X : List Nat} {l : List (Dot × Sl5)} {A : Option Addr} {n c : Nat} (h : Res W X l A n c) : Conv W l A n c := by
 obtain ⟨l', h1, h2, _⟩ := h.ex
 exact ⟨l', h1, h2⟩
theorem c10d (a : Data) {A : Option Addr} {n c B0 : Nat} {w : World} (X : List Nat) (hX : ∀ x ∈ X, B0 ≤ x ∧ x < w.heap.size) (hB0 : B0 ≤ w.heap.size) (h : DotsR w B0 A n c a.dots) (ra : Right a.kind a.float a.dots) :
 Calls Tryz.prog 10 #[.agg #[.int .u8 a.kind, .bool a.float, .bool a.delta, .bool a.mono, .slice A n c]] w fun e w' => ∃ (A' : Option Addr) (c' : Nat), e = .returned (.agg #[.int .u8 a.kind, .bool a.float, .bool a.delta, .bool a.mono, .slice A' n c']) ∧ Res w' X a.dots A' n c' ∧ Below w.heap.size w w' := by
 have hl := h.rd.numlen
 refine (c10 B0 a.kind a.float a.delta a.mono A n c a.dots w hB0 h (by have := ra.2.1; omega) (fun x hx => by have := (ra.2.2 x hx).nattr; omega)).mono ?_
 rintro e w' ⟨A', c', l', h1, h2, h3, h4, h5⟩
 have off : ∀ b, (b < B0 ∨ w.heap.size ≤ b) → b ∉ X := fun b hb hx => by have := hX b hx; omega
 exact ⟨A', c', h1, ⟨l', h2, h3, fun b o t e hn => off b (h4.row b o t e hn), fun x hx t ht b o sp e hn => off b (h4.ins x hx t ht b o sp e hn)⟩, h5⟩
end Go.Proofs.YtlpddogcnpokfaaGreatDoor
