/- Contracts of functions of the program, for the comparison of aggregations (part KAp). -/
import Derived.Test.YtlpddogcnpokfaaGreatDoorKBo
import Derived.Test.YtlpddogcnpokfaaGreatDoorKA9
import Derived.Maps.Own
set_option linter.all false
namespace Go.Proofs.YtlpddogcnpokfaaGreatDoor
open Go.RowKit
/-! ### Maps whose elements are good, in plain words -/
structure KeyOk (P : Program) (kt : TypeId) (KP : Value → Prop) : Prop where
 check : ∀ (k : Value) (em : Bool) (w : World), KP k → (Instr.checkKey em 10000 kt k).run P w = .ok () w
 find : ∀ (k : Value) (w : World), KP k → ∀ es : List MapEntry, (∀ e ∈ es, KP e.key) → ∃ r, (Instr.findKey kt k es).run P w = .ok r w ∧ ∀ i v, r = some (i, v) → ∃ e, es[i]? = some e ∧ e.val = v ∧ Instr.sameBits 10000 e.key k = true
structure Held (w : World) (b : Nat) (KP GV : Value → Prop) : Prop where
 ex : ∃ es clock, w.heap[b]? = some (.map es clock) ∧ ∀ e ∈ es.toList, KP e.key ∧ GV e.val
theorem Held.made (w : World) (KP GV : Value → Prop) : Held (w.alloc (.map #[] 0)) w.heap.size KP GV := ⟨⟨#[], 0, (MapKept.heap_alloc w _).1, by simp⟩⟩
theorem Held.lt {w : World} {b : Nat} {KP GV : Value → Prop} (h : Held w b KP GV) : b < w.heap.size := by
 obtain ⟨es, clock, hb, _⟩ := h.ex
 exact (Array.getElem?_eq_some_iff.1 hb).1
theorem Held.kept {w w' : World} {b : Nat} {KP GV GV' : Value → Prop} (h : Held w b KP GV) (hk : w'.heap[b]? = w.heap[b]?) (hg : ∀ v, GV v → GV' v) : Held w' b KP GV' := by
 obtain ⟨es, clock, hb, hall⟩ := h.ex
 exact ⟨⟨es, clock, hk.trans hb, fun e he => ⟨(hall e he).1, hg _ (hall e he).2⟩⟩⟩
theorem held_lookup {P : Program} {w : World} {b : Nat} {KP GV : Value → Prop} (h : Held w b KP GV) {kt : TypeId} (K : KeyOk P kt KP) {t e : TypeId} (ht : P.underlying t = some (.map kt e)) {z : Value} (hz : (zeroValue e).run P w = .ok z w) {key : Value} (hk : KP key) :
 ∃ v ok, (Instr.lookup t (.map (some b)) key true).run P w = .ok (.tuple #[v, .bool ok]) w ∧ ((ok = true ∧ GV v) ∨ (ok = false ∧ v = z)) := by
 obtain ⟨es, clock, hb, hall⟩ := h.ex
 obtain ⟨r, hr, hspec⟩ := K.find key w hk es.toList (fun e he => (hall e he).1)
 cases r with
 | none =>
  refine ⟨z, false, ?_, .inr ⟨rfl, rfl⟩⟩
  simp [Instr.lookup, run_underlying ht, MapKept.run_getObj_map hb, K.check key _ w hk, hr, hz, Result.andThen]
 | some p =>
  obtain ⟨i, v⟩ := p
  obtain ⟨e0, he0, rfl, _⟩ := hspec i v rfl
  refine ⟨e0.val, true, ?_, .inl ⟨rfl, (hall e0 (List.mem_of_getElem? he0)).2⟩⟩
  simp [Instr.lookup, run_underlying ht, MapKept.run_getObj_map hb, K.check key _ w hk, hr, Result.andThen]
theorem held_update {P : Program} {w : World} {b : Nat} {KP GV : Value → Prop} (h : Held w b KP GV) {kt : TypeId} (K : KeyOk P kt KP) {t e : TypeId} (ht : P.underlying t = some (.map kt e)) {key val : Value} (hk : KP key) (hv : GV val) :
 ∃ w', (Instr.mapUpdate t (.map (some b)) key val).run P w = .ok () w' ∧ Held w' b KP GV ∧ (∀ i, i ≠ b → w'.heap[i]? = w.heap[i]?) ∧ w.grownBy w' (some b) ∧ w'.heap.size = w.heap.size := by
 obtain ⟨es, clock, hb, hall⟩ := h.ex
 obtain ⟨r, hr, hspec⟩ := K.find key w hk es.toList (fun e he => (hall e he).1)
 have mk : ∀ (es' : Array MapEntry) (clock' : Nat), (∀ e ∈ es'.toList, KP e.key ∧ GV e.val) → Held { w with heap := w.heap.setIfInBounds b (.map es' clock') } b KP GV ∧ (∀ i, i ≠ b → (w.heap.setIfInBounds b (.map es' clock'))[i]? = w.heap[i]?) ∧ w.grownBy { w with heap := w.heap.setIfInBounds b (.map es' clock') } (some b) ∧ (w.heap.setIfInBounds b (.map es' clock')).size = w.heap.size := fun es' clock' hall' =>
  ⟨⟨⟨es', clock', (MapKept.heap_set hb).1, hall'⟩⟩, fun i hi => (MapKept.heap_set hb).2 i hi, ⟨rfl, rfl, rfl, by simp, fun i _ hi => (MapKept.heap_set hb).2 i (fun e => hi (by rw [e]))⟩, by simp⟩
 cases r with
 | none =>
  refine ⟨_, ?_, mk (es.push { key, val, born := clock }) (clock + 1) (fun e he => ?_)⟩
  · simp [Instr.mapUpdate, run_underlying ht, MapKept.run_getObj_map hb, K.check key _ w hk, hr, Result.andThen, MapKept.run_setObj_map _ hb]
  · (
  simp only [Array.toList_push, List.mem_append, List.mem_singleton] at he
  rcases he with he | rfl
  · exact hall e he
  · exact ⟨hk, hv⟩)
 | some p =>
  obtain ⟨i, v⟩ := p
  obtain ⟨e0, he0, rfl, hsb⟩ := hspec i v rfl
  have he1 : es[i]? = some e0 := by simpa using he0
  refine ⟨_, ?_, mk (es.modify i fun e => { e with key := key, val := val }) clock (fun e he => ?_)⟩
  · simp [Instr.mapUpdate, run_underlying ht, MapKept.run_getObj_map hb, K.check key _ w hk, hr, Result.andThen, he1, Instr.keyThatStays, hsb, MapKept.run_setObj_map _ hb]
  · (
  obtain ⟨j, hj⟩ := List.mem_iff_getElem?.1 he
  rw [Array.getElem?_toList, Array.getElem?_modify] at hj
  split at hj
  · (
  cases hq : es[j]? with
  | none => rw [hq] at hj; simp at hj
  | some e2 =>
   rw [hq] at hj
   simp only [Option.map_some, Option.some.injEq] at hj
   subst hj
   exact ⟨hk, hv⟩)
  · exact hall e (List.mem_of_getElem? (by simpa using hj)))
def StrKey (k : Value) : Prop := ∃ s, k = .string s
theorem sameBits_string (s : ByteArray) : Instr.sameBits 10000 (.string s) (.string s) = true := (MapKept.bytes_beq s s).2 rfl
theorem keyOk_string {P : Program} {kt : TypeId} (h : P.underlying kt = some .string) : KeyOk P kt StrKey where
 check := by
  rintro k em w ⟨s, rfl⟩
  exact MapKept.run_checkKey h (show MapKept.IsKey .string (.string s) from trivial) em 9999
 find := by
  rintro k w ⟨s, rfl⟩ es hes
  rcases MapKept.findNow_spec (d := .string) (k := .string s) trivial es 0 (fun x hx => by obtain ⟨s', hs'⟩ := hes x hx; rw [hs']; trivial) with ⟨h1, _⟩ | ⟨j, e, h1, h2, h3⟩
  · exact ⟨none, MapKept.run_findKey h h1, by simp⟩
  · (
  refine ⟨some (0 + j, e.val), MapKept.run_findKey h h1, fun i v hiv => ?_⟩
  injection hiv with hiv
  injection hiv with e1 e2
  subst e1 e2
  exact ⟨e, by rw [Nat.zero_add]; exact h2, rfl, by rw [h3]; exact sameBits_string s⟩)
def HashKey (k : Value) : Prop := ∃ x : Int, k = .agg #[.int .u64 x]
theorem equal93 (x y : Int) (w : World) : (Op.equal 93 (.agg #[.int .u64 x]) (.agg #[.int .u64 y])).run Tryz.prog w = .ok (x == y) w := by
 have hS : Tryz.prog.underlying 93 = some (.struct (Tryz.prog.fieldsOf 93)) := by kernel_rfl
 have hp : Tryz.prog.stoodInHeld 93 = false := by kernel_rfl
 show (Op.equalIn 10000 93 (.agg #[.int .u64 x]) (.agg #[.int .u64 y])).run Tryz.prog w = _
 rw [show (10000 : Nat) = 9999 + 1 from rfl, run_equalIn_agg w 9999 93 _ _ hS hp]
 simp only [Program.fieldsOf, Tryz.underlying93]
 go_simp
 by_cases h : x = y <;> simp [h]
theorem keyOk_hash : KeyOk Tryz.prog 93 HashKey where
 check := by
  rintro k em w ⟨x, rfl⟩
  kernel_rfl
 find := by
  rintro k w ⟨x, rfl⟩ es hes
  have ask : ∀ (es : List MapEntry) (i0 : Nat), (∀ e ∈ es, HashKey e.key) → ∃ r, (Instr.findAsking 93 (.agg #[.int .u64 x]) es i0).run Tryz.prog w = .ok r w ∧ ∀ i v, r = some (i, v) → ∃ e j, i = i0 + j ∧ es[j]? = some e ∧ e.val = v ∧ e.key = .agg #[.int .u64 x] := by
   intro es
   induction es with
   | nil => intro i0 _; exact ⟨none, rfl, by simp⟩
   | cons e es ih =>
    intro i0 hes
    obtain ⟨y, hy⟩ := hes e (by simp)
    by_cases hxy : x = y
    · (
    refine ⟨some (i0, e.val), ?_, fun i v h => ?_⟩
    · unfold Instr.findAsking
      simp only [Sem.run_bind, hy, equal93, Result.andThen_ok, hxy, beq_self_eq_true, if_true, Sem.run_pure]
    · (
    injection h with h
    injection h with e1 e2
    exact ⟨e, 0, by omega, rfl, e2, by rw [hy, hxy]⟩))
    · (
    obtain ⟨r, hr, hs⟩ := ih (i0 + 1) (fun e' he' => hes e' (by simp [he']))
    refine ⟨r, ?_, fun i v h => ?_⟩
    · (
    unfold Instr.findAsking
    have hb : (x == y) = false := by simpa using hxy
    simp only [Sem.run_bind, hy, equal93, Result.andThen_ok, hb, Bool.false_eq_true, if_false]
    exact hr)
    · obtain ⟨e', j, h1, h2, h3, h4⟩ := hs i v h
      exact ⟨e', j + 1, by omega, by simpa using h2, h3, h4⟩)
  have hu : Tryz.prog.underlying 93 = some (.struct (Tryz.prog.fieldsOf 93)) := by kernel_rfl
  cases es with
  | nil => exact ⟨none, MapKept.run_findKey hu rfl, by simp⟩
  | cons e es =>
   obtain ⟨r, hr, hs⟩ := ask (e :: es) 0 hes
   refine ⟨r, ?_, fun i v h => ?_⟩
   · (
   obtain ⟨y, hy⟩ := hes e (by simp)
   have hn : Instr.findNow (.struct (Tryz.prog.fieldsOf 93)) (.agg #[.int .u64 x]) (e :: es) 0 = none := by
    simp [Instr.findNow, Instr.sameNow]
   unfold Instr.findKey
   simp only [Sem.run_bind, run_underlying hu, Result.andThen_ok, hn]
   exact hr)
   · (
   obtain ⟨e', j, h1, h2, h3, h4⟩ := hs i v h
   refine ⟨e', by rw [h1, Nat.zero_add]; exact h2, h3, ?_⟩
   rw [h4]
   show ((#[Value.int .u64 x].size == #[Value.int .u64 x].size) && _) = true
   simp [Instr.sameBits])
/-! ### Apart: its parts -/
theorem infoD80 : ∃ i z, Tryz.prog.info? 80 = some i ∧ i.zero = some z ∧ i.size = 2 ∧ i.bytes = 32 ∧ z.cells.size = 2 := infoD_of (by kernel_rfl)
theorem infoD87 : ∃ i z, Tryz.prog.info? 87 = some i ∧ i.zero = some z ∧ i.size = 5 ∧ i.bytes = 64 ∧ z.cells.size = 5 := infoD_of (by kernel_rfl)
theorem c135 (w : World) : Calls Tryz.prog 135 #[.bool true] w fun e w' => e = .returned (.int .u64 1) ∧ w = w' := by
 go_enter Tryz.func135, Tryz.ntmps135
 go_wp2_with fail
 go_ret
 exact ⟨rfl, rfl⟩
theorem c90 (w : World) : Calls Tryz.prog 90 #[.bool true] w fun e w' => e = .returned (.agg #[.int .i64 1, .int .u64 1, .string ⟨#[]⟩, .nilIface]) ∧ Below w.heap.size w w' := by
 go_enter Tryz.func90, Tryz.ntmps90
 go_wp2_with (first
  | (go_at_call 135; refine (c135 _).mono ?_; rintro e w1 ⟨rfl, rfl⟩))
 refine bodyPost_ret (results_cell_row rfl _ _ _ _ _ _ _ rfl (heap_alloc_new w _) Tryz.underlying85 rfl info85) rfl ⟨rfl, (Below.refl _ _).alloc (Nat.le_refl _) _⟩
theorem c52 (k : ByteArray) (w : World) : Calls Tryz.prog 52 #[.string k, .bool true] w fun e w' => e = .returned (.agg (enc5 (strKVB k ⟨#[]⟩)).toArray) ∧ Below w.heap.size w w' := by
 go_enter Tryz.func52, Tryz.ntmps52
 go_upto_region 1 with fail
 obtain ⟨W0, hW0⟩ : ∃ W0, W0 = w.alloc (.cells #[.string ⟨#[]⟩, .int .i64 0, .int .u64 0, .string ⟨#[]⟩, .nilIface] 87) := ⟨_, rfl⟩
 rw [← hW0]
 have hz : W0.heap[w.heap.size]? = some (.cells #[.string ⟨#[]⟩, .int .i64 0, .int .u64 0, .string ⟨#[]⟩, .nilIface] 87 (0, 0)) := by rw [hW0]; exact heap_alloc_new w _
 have hb : Below w.heap.size w W0 := bq hW0
 have hsz : w.heap.size < W0.heap.size := by rw [hW0]; simp
 clear hW0
 go_wp2_with (first
  | (go_at_call 90; refine (c90 _).mono ?_; rintro e w1 ⟨rfl, hb1⟩; have hz1 : w1.heap[w.heap.size]? = _ := (hb1.block _ hsz).trans hz)
  | ((with_reducible apply arm_store_whole 5 info87 hz1); rfl; rfl; rfl; rfl; rfl; intro w2 g1 g2 g3 g4))
 refine bodyPost_ret (results_cell_row rfl _ _ _ _ _ _ _ rfl g1 Tryz.underlying87 rfl info87) rfl ⟨rfl, g3 _ _ (Nat.le_refl _) (below_then hb (Nat.le_of_lt hsz) hb1)⟩
theorem c35 (k : ByteArray) (w : World) : Calls Tryz.prog 35 #[.string k, .bool true] w fun e w' => e = .returned (.agg (enc5 (strKVB k ⟨#[]⟩)).toArray) ∧ Below w.heap.size w w' := by
 go_enter Tryz.func35, Tryz.ntmps35
 go_upto_region 1 with fail
 obtain ⟨W0, hW0⟩ : ∃ W0, W0 = w.alloc (.cells #[.string ⟨#[]⟩, .int .i64 0, .int .u64 0, .string ⟨#[]⟩, .nilIface] 87) := ⟨_, rfl⟩
 rw [← hW0]
 have hz : W0.heap[w.heap.size]? = some (.cells #[.string ⟨#[]⟩, .int .i64 0, .int .u64 0, .string ⟨#[]⟩, .nilIface] 87 (0, 0)) := by rw [hW0]; exact heap_alloc_new w _
 have hb : Below w.heap.size w W0 := bq hW0
 have hsz : w.heap.size < W0.heap.size := by rw [hW0]; simp
 clear hW0
 go_wp2_with (first
  | (go_at_call 52; refine (c52 _ _).mono ?_; rintro e w1 ⟨rfl, hb1⟩; have hz1 : w1.heap[w.heap.size]? = _ := (hb1.block _ hsz).trans hz)
  | ((with_reducible apply arm_store_whole 5 info87 hz1); rfl; rfl; rfl; rfl; rfl; intro w2 g1 g2 g3 g4))
 refine bodyPost_ret (results_cell_row rfl _ _ _ _ _ _ _ rfl g1 Tryz.underlying87 rfl info87) rfl ⟨rfl, g3 _ _ (Nat.le_refl _) (below_then hb (Nat.le_of_lt hsz) hb1)⟩
theorem sort_one (x : KV) : sortK [x] = [x] := List.perm_singleton.1 (perm_sortK [x])
theorem hashB_ne (l : List KV) : hashKVsB l ≠ 0 := by
 unfold hashKVsB remap
 split
 · decide
 · assumption
/-- The set of one Boolean. -/
theorem c34b (k : ByteArray) (hk : k.size ≤ 100) (cs : Array Value) (hcs : cs = (enc5 (strKVB k ⟨#[]⟩)).toArray) (w : World) :
 Calls Tryz.prog 34 #[.slice (some ⟨w.heap.size, 0, none⟩) 1 1] (w.alloc (.cells cs 87)) fun e w' => ∃ (H : Int) (s : Sl), H ≠ 0 ∧ e = .returned (.agg #[.int .u64 H, .slice s.A s.n s.c]) ∧ SetNewB w w' s [strKVB k ⟨#[]⟩] ∧ Below w.heap.size w w' := by
 obtain ⟨W, hW⟩ : ∃ W, W = w.alloc (.cells cs 87) := ⟨_, rfl⟩
 rw [← hW]
 have hb : Below w.heap.size w W := bq hW
 have hs : W.heap.size = w.heap.size + 1 := by rw [hW]; simp
 have hown : W.ownsRow w.heap.size 87 5 (.slice (some ⟨w.heap.size, 0, none⟩) 1 1) 1 ([strKVB k ⟨#[]⟩].map enc5).flatten := by
  rw [hW, hcs]
  have := World.ownsRow_lit (e := 87) (base := w.heap.size) (size := 5) w (enc5 (strKVB k ⟨#[]⟩)).toArray 1 (Nat.le_refl _) (by simp only [maxLen]; omega) rfl
  simpa using this
 refine (c34_ofB (.slice (some ⟨w.heap.size, 0, none⟩) 1 1) (some w.heap.size) [strKVB k ⟨#[]⟩] (hashKVsB [strKVB k ⟨#[]⟩]) W (fun g hg => by injection hg with e; omega) (fun W' hW' => (c51B w.heap.size w.heap.size 1 1 [strKVB k ⟨#[]⟩] W' (own_of_block hown (fun g' hg' => hW'.block g' (hown.lt g' hg').2)) (by have := hW'.size; omega) rfl (by decide) (by decide) ?_ ?_ ?_).mono ?_)).mono ?_
 · (
 intro x hx
 rw [sort_one] at hx
 simp only [List.mem_singleton] at hx
 subst hx
 exact ⟨rfl, rfl⟩)
 · (
 intro x hx
 rw [sort_one] at hx
 simp only [List.mem_singleton] at hx
 subst hx
 exact ⟨hk, Nat.zero_le _⟩)
 · (
 intro i x y hx hy
 rw [sort_one] at hy
 simp only [List.getElem?_cons_succ, List.getElem?_nil] at hy
 cases hy)
 · (
 rintro e w2 ⟨s, h1, h2, h3⟩
 rw [sort_one] at h1 h2
 exact ⟨s, h1, h2, h3⟩)
 · rintro e w2 ⟨s, h1, h2, h3⟩
   exact ⟨_, s, hashB_ne _, h1, h2.older (by omega), hb.grown h3 hb.size (fun g' hg' => by injection hg' with e; omega)⟩
/-! ### A row of sets -/
def encS (q : Int × Sl) : List Value := [.int .u64 q.1, .slice q.2.A q.2.n q.2.c]
structure SetIn (w : World) (ok : Nat → Prop) (q : Int × Sl) : Prop where
 ne : q.1 ≠ 0
 rd : ∃ l : List KV, Rd w w.heap.size 5 q.2.A q.2.n q.2.c (l.map enc5)
 ok : ∀ b o t, q.2.A = some ⟨b, o, t⟩ → 0 < q.2.n → ok b
theorem SetIn.step {w w' : World} {ok ok' : Nat → Prop} {q : Int × Sl} (h : SetIn w ok q) (hk : ∀ b, b < w.heap.size → ok b → w'.heap[b]? = w.heap[b]?) (ho : ∀ b, b < w.heap.size → ok b → ok' b) (hs : w.heap.size ≤ w'.heap.size) : SetIn w' ok' q := by
 obtain ⟨h1, ⟨l, h2⟩, h3⟩ := h
 exact ⟨h1, ⟨l, h2.stay (t := q.2) h3 hk hs⟩, fun b o t e hn => ho b (rd_lt (t := q.2) h2 e hn) (h3 b o t e hn)⟩
structure SetRow (w0 wr : World) (v : Value) (m : Nat) : Prop where
 ex : ∃ sets : List (Int × Sl), sets.length = m ∧ wr.ownsRow w0.heap.size 80 2 v m (sets.map encS).flatten ∧ ∀ q ∈ sets, SetIn wr (fun b => v.ownBlock ≠ some b) q
 bel : Below w0.heap.size w0 wr
theorem SetRow.below {w0 wr w1 : World} {v : Value} {m : Nat} (h : SetRow w0 wr v m) (hb : Below wr.heap.size wr w1) : SetRow w0 w1 v m := by
 obtain ⟨⟨sets, h1, h2, h3⟩, h4⟩ := h
 exact ⟨⟨sets, h1, own_of_block h2 (fun g hg => hb.block g (h2.lt g hg).2), fun q hq => (h3 q hq).step (fun b hlt _ => hb.block b hlt) (fun b _ h => h) hb.size⟩, below_then h4 h4.size hb⟩
theorem SetRow.slice {w0 wr : World} {v : Value} {m : Nat} (h : SetRow w0 wr v m) : ∃ A c, v = .slice A m c := by
 obtain ⟨⟨sets, _, h2, _⟩, _⟩ := h
 exact own_slice h2
theorem wpList_sr {P : Program} {ops : Array Oper} {rest : List Oper} {o : Oper} {a : Act} {Q : Exit → Act → World → Prop} {by_ : Nat} (hi : ∃ i z, P.info? 80 = some i ∧ i.zero = some z ∧ i.size = 2 ∧ i.bytes = by_ ∧ z.cells.size = 2) (hby : by_ ≤ 1000)
 {w0 wr : World} {v : Value} {m : Nat} (h : SetRow w0 wr v m) (hm : m ≤ 1000) {q : Int × Sl} {cx : Array Value} (hcx : cx = (encS q).toArray) (hq : SetIn wr (fun b => v.ownBlock ≠ some b) q) (hgd : o.guard = none) (s x : Operand) (t : TypeId)
 (ho : o.op = .call { callee := .builtin .append, args := #[s, x], argTypes := #[t, t] }) (hu : P.underlying t = some (.slice 80)) (hs : a.eval s = v) {gx : Nat} (hx : a.eval x = .slice (some ⟨gx, 0, none⟩) 1 1) (hgx : gx = wr.heap.size)
 (H : ∀ g cap w1, SetRow w0 w1 (.slice (some ⟨g, 0, none⟩) (m + 1) cap) (m + 1) → wpList P ops Q rest (a.put o.dst (.slice (some ⟨g, 0, none⟩) (m + 1) cap)) w1) :
 wpList P ops Q (o :: rest) a (wr.alloc (.cells cx 80)) := by
 refine wpList_plain hgd fun K hK => ?_
 subst hgx hcx
 obtain ⟨⟨sets, h1, h2, h3⟩, h4⟩ := h
 obtain ⟨i, z, i1, i2, i3, i4, i5⟩ := hi
 have hg0 : wr.grownBy (wr.alloc (.cells (encS q).toArray 80)) v.ownBlock := World.grownBy_alloc _ _ _
 have hown := h2.alloc (.cells (encS q).toArray 80)
 refine wp_append_lies _ s x t ho w0.heap.size 80 i z 2 by_ hu i1 i2 i3 i4 i5 (by decide) v m _ hs hown ⟨wr.heap.size, 0, none⟩ 1 1 (encS q) hx rfl ?_ ?_ (by decide) (by simp only [maxLen]; omega) ?_ (by rw [World.size_alloc]; have := h4.size; omega) _ rfl ?_
 · have := World.news_of_block (heap_alloc_new wr (.cells (encS q).toArray 80))
   simpa using this
 · (
 intro u hu
 have : (encS q).all (·.oneCell') = true := rfl
 exact List.all_eq_true.1 this u hu)
 · have : (m + 1) * by_ ≤ 1001 * 1000 := Nat.mul_le_mul (by omega) hby
   omega
 · (
 intro g cap w1 hown1 hg1 hvg hglt
 have hgt := grownBy_trans hg0 hg1
 have hne : ∀ b, b < wr.heap.size → v.ownBlock ≠ some b → (Value.slice (some ⟨g, 0, none⟩) (m + 1) cap).ownBlock ≠ some b := fun b hb hv e => by
  have e' : some g = some b := e
  injection e' with e'
  rcases hvg with h | h
  · exact hv (h.trans e)
  · rw [World.size_alloc] at h; omega
 have hstep : ∀ r, SetIn wr (fun b => v.ownBlock ≠ some b) r → SetIn w1 (fun b => (Value.slice (some ⟨g, 0, none⟩) (m + 1) cap).ownBlock ≠ some b) r := fun r hr =>
  hr.step (fun b hlt hok => hgt.block b hlt (Ne.symm hok)) (fun b hlt hok => hne b hlt hok) hgt.size
 refine hK _ _ (H g cap w1 ⟨⟨sets ++ [q], by simp [h1], by simpa using hown1, fun r hr => ?_⟩, h4.grown hgt h4.size (fun k hk => (h2.lt k hk).1)⟩)
 rcases List.mem_append.1 hr with hr | hr
 · exact hstep r (h3 r hr)
 · simp at hr; subst hr; exact hstep _ hq)
theorem SetRow.at_ {w0 wr : World} {v : Value} {m : Nat} (h : SetRow w0 wr v m) {i : Nat} (hi : i < m) : ∃ g c q, v = .slice (some ⟨g, 0, none⟩) m c ∧ g < wr.heap.size ∧ wr.cell? ⟨g, i * 2, none⟩ = some (.int .u64 q.1) ∧ wr.cell? ⟨g, i * 2 + 1, none⟩ = some (.slice q.2.A q.2.n q.2.c) ∧ SetIn wr (fun b => v.ownBlock ≠ some b) q := by
 obtain ⟨⟨sets, h1, h2, h3⟩, _⟩ := h
 obtain ⟨g, c, rfl, h4, h5, _, _⟩ := own_some h2 (by omega)
 have hi' : i < sets.length := by omega
 have hrow : ((sets.map encS).flatten)[i * 2]? = some (.int .u64 (sets[i]).1) ∧ ((sets.map encS).flatten)[i * 2 + 1]? = some (.slice (sets[i]).2.A (sets[i]).2.n (sets[i]).2.c) := by
  clear h1 h2 h3 h4 h5 hi
  induction sets generalizing i with
  | nil => simp at hi'
  | cons q sets ih =>
   cases i with
   | zero => exact ⟨rfl, rfl⟩
   | succ i =>
    have := ih (i := i) (by simpa using hi')
    simp only [List.map_cons, List.flatten_cons, List.getElem_cons_succ]
    rw [show (i + 1) * 2 = (encS q).length + i * 2 by simp [encS]; omega, List.getElem?_append_right (by omega), show (encS q).length + i * 2 + 1 = (encS q).length + (i * 2 + 1) by omega, List.getElem?_append_right (by omega)]
    simpa using this
 refine ⟨g, c, sets[i], rfl, h5, ?_, ?_, h3 _ (List.getElem_mem hi')⟩
 · rw [h2.cellAt _ (by omega)]; exact hrow.1
 · rw [h2.cellAt _ (by omega)]; exact hrow.2
theorem zero3 (w : World) : (zeroValue 3).run Tryz.prog w = .ok (.int .i64 0) w := by kernel_rfl
structure C21a (w : World) (n : Nat) (v i : Value) (wr : World) : Prop where
 ex : ∃ k : Nat, k ≤ n ∧ i = .int .i64 k ∧ SetRow w wr v (k + 1)
def IdxBelow (N : Nat) (v : Value) : Prop := ∃ j : Nat, j < N ∧ v = .int .i64 j
structure C21b (WA : World) (bm N : Nat) (i : Value) (wr : World) : Prop where
 ex : ∃ k : Nat, k ≤ N ∧ i = .int .i64 k ∧ Below WA.heap.size WA wr ∧ Held wr bm HashKey (IdxBelow N)
def overflowKey : ByteArray := ⟨#[111, 116, 101, 108, 46, 109, 101, 116, 114, 105, 99, 46, 111, 118, 101, 114, 102, 108, 111, 119]⟩
set_option maxRecDepth 100000 in
set_option maxHeartbeats 4000000 in
theorem c21 (A : Option Addr) (n c : Nat) (l : List (Sl × List KV)) (w : World) (h : Rd w w.heap.size 1 A n c (l.map fun x => [.slice x.1.A x.1.n x.1.c])) (hall : ∀ x ∈ l, Rd w w.heap.size 2 x.1.A x.1.n x.1.c (x.2.map enc2) ∧ AttrsOk x.2) (hn : n ≤ 900) :
 Calls Tryz.prog 21 #[.slice A n c] w fun e w' => (∃ r, e = .returned (.bool r)) ∧ Below w.heap.size w w' := by
 obtain ⟨cb, hcb⟩ : ∃ cb, cb = (enc5 (strKVB overflowKey ⟨#[]⟩)).toArray := ⟨_, rfl⟩
 have C35 := Lib.hid fun (W : World) => c35 overflowKey W
 rw [← hcb] at C35
 have sb : cb.size = 5 := by rw [hcb]; rfl
 have C34 := Lib.hid fun (W : World) => c34b overflowKey (by decide) cb hcb W
 have HX := Lib.hid h
 have HALL := Lib.hid hall
 have nzk := overflowKey
 clear h hall hcb nzk
 unfold overflowKey at C35
 go_enter Tryz.func21, Tryz.ntmps21
 go_upto_region 2 with (first
  | (go_at_call 35; (with_reducible refine (C35.out _).mono ?_); rintro e w1 ⟨rfl, hb1⟩)
  | ((with_reducible refine wpList_build1 87 5 (infoD_four infoD87) rfl _ _ rfl Tryz.underlying78 (by decide) ?_ sb ?_); rfl)
  | (go_at_call 34; (with_reducible refine (C34.out _).mono ?_); rintro e w2 ⟨H0, s0, hne0, rfl, hset0, hb2⟩; have s2 : (#[Value.int .u64 H0, .slice s0.A s0.n s0.c] : Array Value).size = 2 := rfl)
  | ((with_reducible refine wpList_build1 80 2 (infoD_four infoD80) rfl _ _ rfl Tryz.underlying89 (by decide) ?_ s2 ?_); rfl))
 have hbw2 : Below w.heap.size w w2 := below_then hb1 hb1.size hb2
 obtain ⟨W3, hW3⟩ : ∃ W3, W3 = w2.alloc (.cells #[.int .u64 H0, .slice s0.A s0.n s0.c] 80) := ⟨_, rfl⟩
 have hb3 : Below w2.heap.size w2 W3 := bq hW3
 have hsr : SetRow w W3 (.slice (some ⟨w2.heap.size, 0, none⟩) 1 1) 1 := by
  refine ⟨⟨[(H0, s0)], rfl, ?_, ?_⟩, below_then hbw2 hbw2.size hb3⟩
  · (
  rw [hW3]
  have := World.ownsRow_lit (e := 80) (base := w.heap.size) (size := 2) w2 #[.int .u64 H0, .slice s0.A s0.n s0.c] 1 hbw2.size (by simp only [maxLen]; omega) rfl
  simpa [encS] using this)
  · (
  intro q hq
  simp only [List.mem_singleton] at hq
  subst hq
  refine ⟨hne0, ⟨_, (hset0.set.rd.below hb3).more hb3.size⟩, fun b o t e hn e2 => ?_⟩
  have h1 := rd_lt (t := s0) hset0.set.rd e hn
  have e3 : w2.heap.size = b := Option.some.inj e2
  omega)
 rw [← hW3]
 obtain ⟨v0, hv0⟩ : ∃ v0, v0 = Value.slice (some ⟨w2.heap.size, 0, none⟩) 1 1 := ⟨_, rfl⟩
 rw [← hv0] at hsr
 have HV0 := Lib.hid hv0
 rw [← HV0.out]
 have HSR := Lib.hid hsr
 clear hb1 hb2 hbw2 hset0 hb3 hsr hW3 s2 hv0 C35 C34
 as_aux_lemma => (
 go_upto_region 3 with fail
 go_loopw [3, 5, 17] (fun v _ i wr => C21a w n v i wr) (fun _ _ i _ => n - (intOf i).toNat)
 case atStart => exact ⟨0, Nat.zero_le _, rfl, HSR.out⟩
 case round => (
 obtain ⟨k, hk, rfl, hsr⟩ := hrel.ex
 obtain ⟨wo, rfl⟩ : ∃ wo : World, wo = wr := ⟨_, rfl⟩
 obtain ⟨vA, vc, rfl⟩ := hsr.slice
 clear HSR
 have HSR := Lib.hid hsr
 clear hrel hsr
 by_cases hlt : k < n
 · (
 obtain ⟨ba, oa, r, rfl, hbB, hx, _, ca⟩ := (HX.out.below HSR.out.bel).at_ hlt
 rw [List.getElem?_map, Option.map_eq_some_iff] at hx
 obtain ⟨x, hx, rfl⟩ := hx
 obtain ⟨hxr, hxo⟩ := HALL.out x (List.mem_of_getElem? hx)
 have cy : wo.cell? ⟨ba, oa + k, none⟩ = some (.slice x.1.A x.1.n x.1.c) := by
  have := ca 0 (.slice x.1.A x.1.n x.1.c) rfl
  simpa using this
 have C36 := Lib.hid (c36 x.1.A x.1.n x.1.c x.2 wo ((hxr.below HSR.out.bel).more HSR.out.bel.size) hxo)
 obtain ⟨H1, hH1⟩ : ∃ H, H = hashL (sortK x.2) := ⟨_, rfl⟩
 have hne1 : H1 ≠ 0 := by rw [hH1]; exact hashL_ne _ sum64_nil
 rw [← hH1] at C36
 have HNE := Lib.hid hne1
 have i0 : (0 : Int) ≤ (k : Int) := by omega
 have i1 : (k : Int) < (n : Int) := by omega
 have HK : Hid (k + 1 ≤ 1000) := Lib.hid (by omega)
 have HOW : Hid (∀ g, (Value.slice vA (k + 1) vc).ownBlock = some g → g < wo.heap.size) := Lib.hid (by obtain ⟨sets, _, h2, _⟩ := HSR.out.ex; exact fun g hg => (h2.lt g hg).2)
 clear hx hxr hxo ca hH1 hne1
 as_aux_lemma => (
 go_wp2_with (first
  | (go_at_call 36; (with_reducible refine C36.out.mono ?_); rintro e w1 ⟨s1, rfl, hset, hb1⟩; have s2 : (#[Value.int .u64 H1, .slice s1.A s1.n s1.c] : Array Value).size = 2 := rfl; have HQ : Hid (SetIn w1 (fun b => (Value.slice vA (k + 1) vc).ownBlock ≠ some b) (H1, s1)) := Lib.hid ⟨HNE.out, ⟨_, hset.set.rd⟩, fun b o t e hn e2 => by have h1 := hset.new b o t e; have h2 := HOW.out b e2; omega⟩; have HS1 := Lib.hid (HSR.out.below hb1))
  | ((with_reducible refine wpList_build1 80 2 (infoD_four infoD80) rfl _ _ rfl Tryz.underlying89 (by decide) ?_ s2 ?_); rfl)
  | (at_builtin; (refine wpList_sr infoD80 (by decide) HS1.out HK.out (q := (H1, s1)) rfl HQ.out rfl _ _ 89 rfl Tryz.underlying89 rfl rfl rfl ?_); intro g cap w3 hsr3))
 go_roundw
 case rel => exact ⟨k + 1, by omega, by go_num, hsr3⟩
 case measure => simp [intOf]; omega))
 · (
 have hkn : k = n := by omega
 subst hkn
 have f9 : ¬ (k : Int) < (k : Int) := by omega
 obtain ⟨bm, hbm⟩ : ∃ bm, bm = wo.heap.size := ⟨_, rfl⟩
 obtain ⟨WB, hWB⟩ : ∃ WB, WB = wo.alloc (.map #[] 0) := ⟨_, rfl⟩
 have hbB : Below wo.heap.size wo WB := bq hWB
 have hheld : Held WB bm HashKey (IdxBelow (k + 1)) := by rw [hWB, hbm]; exact Held.made wo _ _
 have HWB := Lib.hid hWB
 have HBM := Lib.hid hbm
 have HBB := Lib.hid hbB
 have HHL := Lib.hid hheld
 have hmm := @run_makeMap Tryz.prog
 clear hWB hbm hbB hheld
 go_upto_region 8 with fail
 rw [← HWB.out, ← HBM.out]
 try simp only [Act.put]
 clear hmm
 as_aux_lemma => (
 go_upto_region 9 with fail
 go_loopw [7, 8, 9, 10, 30] (fun _ _ _ _ i wr => C21b wo bm (k + 1) i wr) (fun _ _ _ _ i _ => k + 1 - (intOf i).toNat)
 case atStart => exact ⟨0, Nat.zero_le _, rfl, HBB.out, HHL.out⟩
 case round => (
 obtain ⟨j, hj, rfl, hbj, hheld⟩ := hrel.ex
 obtain ⟨wp, rfl⟩ : ∃ wo : World, wo = wr := ⟨_, rfl⟩
 clear hrel
 have HBJ := Lib.hid hbj
 clear HHL
 have HHL := Lib.hid hheld
 have HSJ := Lib.hid (HSR.out.below hbj)
 clear hbj hheld
 by_cases hlt2 : j < k + 1
 · (
 obtain ⟨g, c2, q, hv, hglt, x0, x1, hq⟩ := HSJ.out.at_ hlt2
 injection hv with e1 e2 e3
 subst e1 e3
 have C37 := Lib.hid (c37x g (j * 2) q.1 wp hq.ne x0)
 have j0 : (0 : Int) ≤ (j : Int) := by omega
 have j1 : (j : Int) < ((k + 1 : Nat) : Int) := by omega
 have j1' : (j : Int) < (k : Int) + 1 := by omega
 have HQ := Lib.hid hq
 have X0 := Lib.hid x0
 have X1 := Lib.hid x1
 clear hq x0 x1
 as_aux_lemma => (
 go_upto_region 12 with (first
  | (go_at_call 37; (with_reducible refine C37.out.mono ?_); rintro e w1 ⟨rfl, hb1⟩)
  | ((with_reducible apply arm_store_new 1 info93); rfl; simp; rfl; rfl; rfl; rfl))
 obtain ⟨x8, hx8⟩ : ∃ x, x = w1.heap.size := ⟨_, rfl⟩
 obtain ⟨W5, hW5⟩ : ∃ W5, W5 = w1.alloc (.cells #[.int .u64 q.1] 93) := ⟨_, rfl⟩
 rw [← hW5, ← hx8]
 try simp only [Act.put]
 have hz8 : W5.heap[x8]? = some (.cells #[.int .u64 q.1] 93 (0, 0)) := by rw [hx8, hW5]; exact heap_alloc_new w1 _
 have hb5 : Below wp.heap.size wp W5 := below_then hb1 hb1.size (by rw [hW5]; exact (Below.refl _ _).alloc (Nat.le_refl _) _)
 have hh5 : Held W5 bm HashKey (IdxBelow (k + 1)) := HHL.out.kept (hb5.block _ HHL.out.lt) (fun _ h => h)
 obtain ⟨lv, ok, hlook, hor⟩ := held_lookup hh5 keyOk_hash Tryz.underlying91 (zero3 W5) (key := .agg #[.int .u64 q.1]) ⟨q.1, rfl⟩
 obtain ⟨t, ht, rfl⟩ : IdxBelow (k + 1) lv := by
  rcases hor with ⟨_, h⟩ | ⟨_, h⟩
  · exact h
  · exact ⟨0, by omega, h⟩
 have HZ8 := Lib.hid hz8
 have HB5 := Lib.hid hb5
 have HH5 := Lib.hid hh5
 clear hb1 hW5 hx8 hb5 hh5 hor
 as_aux_lemma => (
 go_upto_region 13 with ((with_reducible refine arm_load_all 1 info93 Tryz.underlying93 hz8 ?_ ?_ ?_ ?_); rfl; rfl; rfl)
 clear hlook
 go_cut [53] from 31 to 57 (fun s53 wx => (∃ r, s53 = .bool r) ∧ Below W5.heap.size W5 wx)
 case first => (
 as_aux_lemma => (
 cases ok
 · (
 go_quiet (fail)
 go_wp2_with fail
 go_meet
 exact ⟨⟨_, rfl⟩, below_drewN (Below.refl _ _) _⟩)
 · (
 obtain ⟨g3, c3, q3, hv3, _, y0, y1, hq3⟩ := (HSJ.out.below HB5.out).at_ ht
 obtain ⟨g4, c4, q4, hv4, _, z0, z1, hq4⟩ := (HSJ.out.below HB5.out).at_ hlt2
 injection hv3 with e1 e2 e3
 injection e1 with e1
 injection e1 with e1 _ _
 subst e1 e3
 injection hv4 with e1 e2 e3
 injection e1 with e1
 injection e1 with e1 _ _
 subst e1 e3
 obtain ⟨l3, r3⟩ := hq3.rd
 obtain ⟨l4, r4⟩ := hq4.rd
 have C38 := Lib.hid fun (W : World) (hW : Below W5.heap.size W5 W) => c38x l3 l4 q3.2 q4.2 g (t * 2) g (j * 2) q3.1 q4.1 hq3.ne hq4.ne W ((r3.below hW).more hW.size) ((r4.below hW).more hW.size) (cellk y0 hW) (cellk y1 hW) (cellk z0 hW) (cellk z1 hW)
 have t0 : (0 : Int) ≤ (t : Int) := by omega
 have t1 : (t : Int) < ((k + 1 : Nat) : Int) := by omega
 have t1' : (t : Int) < (k : Int) + 1 := by omega
 clear y0 y1 z0 z1 hq3 hq4 r3 r4
 first
  | (go_region_held3 (fun w' => w'.heap.size = w'.heap.size) (first | exact rfl)
   (first | (go_at_call 38; (with_reducible refine (C38.out _ (below_drew (Below.refl _ _))).mono ?_); rintro e w7 ⟨⟨r, rfl⟩, hb7⟩)))
  | fail
 all_goals go_wp2_with fail
 all_goals go_meet
 all_goals exact ⟨⟨_, rfl⟩, below_then (below_drew (Below.refl _ _)) (Nat.le_refl _) hb7⟩)))
 case rest => (
 obtain ⟨⟨r, rfl⟩, hbc⟩ := hcut
 obtain ⟨W6, rfl⟩ : ∃ W : World, W = wc := ⟨_, rfl⟩
 have hz6 := (hbc.block _ (Array.getElem?_eq_some_iff.1 HZ8.out).1).trans HZ8.out
 have hh6 : Held W6 bm HashKey (IdxBelow (k + 1)) := HH5.out.kept (hbc.block _ HH5.out.lt) (fun _ h => h)
 obtain ⟨W7, hup, hh7, hk7, hg7, hs7⟩ := held_update hh6 keyOk_hash Tryz.underlying91 (key := .agg #[.int .u64 q.1]) (val := .int .i64 j) ⟨q.1, rfl⟩ ⟨j, hlt2, rfl⟩
 have HB6 := Lib.hid (below_then (below_then HBJ.out HBJ.out.size HB5.out) (by have := HBJ.out.size; have := HB5.out.size; omega) hbc)
 have HH7 := Lib.hid hh7
 have HG7 := Lib.hid hg7
 clear hbc hh6 hh7 hk7 hg7 hs7
 cases r
 · as_aux_lemma => (
 go_wp2_with ((with_reducible refine arm_load_all 1 info93 Tryz.underlying93 hz6 ?_ ?_ ?_ ?_); rfl; rfl; rfl)
 go_roundw
 case rel => exact ⟨j + 1, by omega, by go_num, HB6.out.grown HG7.out HB6.out.size (fun g hg => by injection hg with e; have := HBM.out; omega), HH7.out⟩
 case measure => simp [intOf]; omega)
 · as_aux_lemma => (
 go_wp2_with fail
 go_ret
 first | exact ⟨⟨_, rfl⟩, below_then HSR.out.bel HSR.out.bel.size HB6.out⟩ | exact ⟨.inl rfl, below_then HSR.out.bel HSR.out.bel.size HB6.out⟩ | exact ⟨.inr rfl, below_then HSR.out.bel HSR.out.bel.size HB6.out⟩)))))
 · (
 have f8 : ¬ (j : Int) < ((k + 1 : Nat) : Int) := by omega
 have f8' : ¬ (j : Int) < (k : Int) + 1 := by omega
 as_aux_lemma => (
 go_wp2_with fail
 go_ret
 first | exact ⟨⟨_, rfl⟩, below_then HSR.out.bel HSR.out.bel.size HBJ.out⟩ | exact ⟨.inl rfl, below_then HSR.out.bel HSR.out.bel.size HBJ.out⟩ | exact ⟨.inr rfl, below_then HSR.out.bel HSR.out.bel.size HBJ.out⟩)))))))
end Go.Proofs.YtlpddogcnpokfaaGreatDoor
