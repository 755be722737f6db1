import PyProof.Rows.All
import Wide.All
import OpenK.AllK
import Wide.FinOn
import PySem.Challenge.RW_bq5004_01
open PySem PySem.W PySem.Spec PySem.Calls PyProof.Rows
set_option Elab.async false
set_option linter.unusedVariables false
set_option linter.unusedSimpArgs false
namespace MineMur
set_option maxRecDepth 100000 in
set_option maxHeartbeats 8000000 in
open_top hd for PySem.Challenge.rw_bq5004_01

section
/-! what the program's functions and the law's own reckon, in plain Lean -/
def trunc64 (x : Int) : Int := if -9223372036854775808 ≤ x ∧ x ≤ 9223372036854775807 then x else (x + 9223372036854775808).fmod 18446744073709551616 - 9223372036854775808
def rotV (x r : Int) : Int := Builtin.bitOr (x * 2 ^ r.toNat) (Builtin.bitAnd (x.fdiv (2 ^ (64 - r).toNat)) (2 ^ r.toNat - 1))
def shV (x : Int) : Int := Builtin.bitXor x (Builtin.bitAnd (x.fdiv (2 ^ Int.toNat 33)) 2147483647)
def fmixV (x : Int) : Int := shV (shV (shV x * 18397679294719823053) * 14181476777654086739)

/-- the rest after so many halvings, and the bits so far -/
noncomputable def restF (v : Int) : Nat → Int
  | 0 => v
  | n + 1 => (restF v n).fdiv 2
noncomputable def bitsF (v : Int) : Nat → List Int
  | 0 => []
  | n + 1 => bitsF v n ++ [(restF v n).fmod 2]
theorem bitsF_length (v : Int) : ∀ n, (bitsF v n).length = n
  | 0 => rfl
  | n + 1 => by rw [bitsF, List.length_append, bitsF_length v n]; rfl

noncomputable def valD (bs : List Int) : Nat → Int
  | 0 => 0
  | j + 1 => valD bs j * 2 + bs.getD (63 - j) 0

noncomputable def turnV (x r : Int) : Int := valD ((rangeKs 0 (64 - 0 : Int).toNat).map fun k => (bitsF (x.fmod (2 ^ Int.toNat 64)) 64).getD ((k - r).fmod 64).toNat 0) 64

noncomputable def shiftV (x : Int) : Int := valD ((rangeKs 0 (64 - 0 : Int).toNat).map fun k => if k + 33 < 64 then ((bitsF (x.fmod (2 ^ Int.toNat 64)) 64).getD k.toNat 0 + (bitsF (x.fmod (2 ^ Int.toNat 64)) 64).getD (k + 33).toNat 0).fmod 2 else ((bitsF (x.fmod (2 ^ Int.toNat 64)) 64).getD k.toNat 0 + 0).fmod 2) 64

noncomputable def mixV (x : Int) : Int := shiftV ((shiftV ((shiftV x * 18397679294719823053).fmod (2 ^ Int.toNat 64)) * 14181476777654086739).fmod (2 ^ Int.toNat 64))

def hornV (os : List Int) : Int := os.foldl (fun t o => t * 256 + o) 0
def signV (os : List Int) : Int := if 128 ≤ os.getD 7 0 then hornV os.reverse - 256 ^ Int.toNat 8 else hornV os.reverse
end

section
open Builtin

theorem up_kind : builtinKind "_struct.unpack" = none := by decide +kernel
theorem up_plain : plainId "_struct.unpack" = true := by decide +kernel
theorem up_entry : entryFor table "_struct.unpack" = some Builtin.«_struct.unpack» := by first | exact entryFor_of_fast (by kernel_rfl) | exact entryFor_of_tree (by kernel_rfl)
theorem up_args (a b : Value) : argsOk "_struct.unpack" ⟨[a, b], []⟩ := by unfold argsOk; kernel_rfl

def codesAt (c : Char) (wd n : Nat) : List Struct.Code := (List.range n).map fun i => ⟨c, 1, i * wd, wd⟩
def fmtB (n : Int) : Str := Txt.mul (Str.ofString "b") n
def fmtQ (n : Int) : Str := Str.ofString "<" ++ Txt.mul (Str.ofString "qq") n
set_option maxRecDepth 100000
theorem fmtB_is (t : Tok) : ∀ n : Nat, n ≤ 15 → Struct.moduleFormat (.str (fmtB n) t) = pure ⟨false, true, codesAt 'b' 1 n, n, n⟩ := by
  intro n hn
  match n, hn with
  | 0, _ => kernel_rfl
  | 1, _ => kernel_rfl
  | 2, _ => kernel_rfl
  | 3, _ => kernel_rfl
  | 4, _ => kernel_rfl
  | 5, _ => kernel_rfl
  | 6, _ => kernel_rfl
  | 7, _ => kernel_rfl
  | 8, _ => kernel_rfl
  | 9, _ => kernel_rfl
  | 10, _ => kernel_rfl
  | 11, _ => kernel_rfl
  | 12, _ => kernel_rfl
  | 13, _ => kernel_rfl
  | 14, _ => kernel_rfl
  | 15, _ => kernel_rfl
  | n + 16, h => omega
theorem fmtQ_is (t : Tok) : ∀ n : Nat, 1 ≤ n → n ≤ 3 → Struct.moduleFormat (.str (fmtQ n) t) = pure ⟨false, false, codesAt 'q' 8 (2 * n), 16 * n, 2 * n⟩ := by
  intro n h1 hn
  match n, hn with
  | 0, _ => omega
  | 1, _ => kernel_rfl
  | 2, _ => kernel_rfl
  | 3, _ => kernel_rfl
  | n + 4, h => omega

def pieceV (b : Array UInt8) (o wd : Nat) : Int :=
  if 2 ^ (8 * wd - 1) ≤ Struct.natOf false (b.extract o (o + wd)) then (Struct.natOf false (b.extract o (o + wd)) : Int) - 2 ^ (8 * wd) else (Struct.natOf false (b.extract o (o + wd)) : Int)

theorem piece_ext (b : Array UInt8) (o wd : Nat) (c : Bool) (hc : c = true) : (if (c && decide (Struct.natOf false (b.extract (0 + o + 0 * wd) (0 + o + (0 + 1) * wd)) ≥ 2 ^ (8 * wd - 1))) = true then ((Struct.natOf false (b.extract (0 + o + 0 * wd) (0 + o + (0 + 1) * wd)) : Nat) : Int) - 2 ^ (8 * wd) else ((Struct.natOf false (b.extract (0 + o + 0 * wd) (0 + o + (0 + 1) * wd)) : Nat) : Int)) = pieceV b o wd := by
  subst hc
  have e1 : 0 + o + 0 * wd = o := by omega
  have e2 : 0 + o + (0 + 1) * wd = o + wd := by omega
  rw [e1, e2]
  unfold pieceV
  by_cases h : 2 ^ (8 * wd - 1) ≤ Struct.natOf false (b.extract o (o + wd))
  · rw [if_pos h, if_pos (by simpa using h)]
  · rw [if_neg h, if_neg (by simpa using h)]

theorem unpacked_ints {M : Model} {A : Around} {E : Value → Shared → Prop} {s : Shared} {Q : Value → Shared → Prop} {id : String} {b : Array UInt8} {ch : Char} (hc : ch = 'b' ∨ ch = 'q') {wd n sz it : Nat} {nat : Bool}
    (h : ∀ vs k, IntsAre vs ((List.range n).map fun i => pieceV b (i * wd) wd) → wpAny M A (newTuple vs) Q E { s with toks := k }) :
    wpAny M A (Struct.unpacked id ⟨false, nat, codesAt ch wd n, sz, it⟩ b 0) Q E s := by
  unfold Struct.unpacked
  refine wpAny_bind ?_
  refine wpAny_forIn_list _ (fun rest out s' => ∃ i, i ≤ n ∧ rest = (codesAt ch wd n).drop i ∧ IntsAre out.toList ((List.range i).map fun i => pieceV b (i * wd) wd) ∧ ∃ k, s' = { s with toks := k }) _ ?_ ?_ _ _ ⟨0, Nat.zero_le _, rfl, .nil, s.toks, rfl⟩
  · rintro c rest out s' ⟨i, hi, hr, hv, k, rfl⟩
    have hlt : i < n := by
      rcases Nat.lt_or_ge i n with h | h
      · exact h
      · have : (codesAt ch wd n).drop i = [] := List.drop_eq_nil_of_le (by simp [codesAt]; omega)
        rw [this] at hr; cases hr
    have hd : (codesAt ch wd n).drop i = ⟨ch, 1, i * wd, wd⟩ :: (codesAt ch wd n).drop (i + 1) := by
      rw [List.drop_eq_getElem_cons (by simp [codesAt]; exact hlt)]
      simp [codesAt]
    rw [hd] at hr
    injection hr with hr1 hr2
    subst hr1 hr2
    have go : ∀ (v : Int) k', v = pieceV b (i * wd) wd → (∃ i_1, i_1 ≤ n ∧ (codesAt ch wd n).drop (i + 1) = (codesAt ch wd n).drop i_1 ∧ IntsAre (out.push (.int v k)).toList ((List.range i_1).map fun i => pieceV b (i * wd) wd) ∧ ∃ k, ({ s with toks := k' } : Shared) = { s with toks := k }) := by
      intro v k' hv'
      refine ⟨i + 1, hlt, rfl, ?_, k', rfl⟩
      rw [List.range_succ, List.map_append, Array.toList_push, hv']
      exact IntsAre.append hv (.cons _ _ .nil)
    rcases hc with rfl | rfl
    all_goals
      show wpAny M A (if Bytes.tooLong 1 = true then _ else _) _ E _
      rw [if_neg (by rw [KBy.tooLong_not (by omega)]; exact Bool.false_ne_true)]
      refine wpAny_bind ?_
      rw [Std.Legacy.Range.forIn_eq_forIn_range']
      generalize hl : List.range' _ _ _ = l
      have hl' : l = [0] := hl.symm.trans (by simp [Std.Legacy.Range.size])
      subst hl'
      clear hl
      rw [List.forIn_cons]
      refine wpAny_bind ?_
      show wpAny M A (mkInt _ >>= _) _ E _
      refine wpAny_bind (wpAny_mkInt (wpAny_pure ?_))
      dsimp only
      rw [List.forIn_nil]
      exact wpAny_pure (wpAny_pure (go _ _ (piece_ext b (i * wd) wd _ (by decide))))
  · rintro out s' ⟨i, hi, hr, hv, k, rfl⟩
    have : i = n := by
      rcases Nat.lt_or_ge i n with h | h
      · have hl : ((codesAt ch wd n).drop i).length = n - i := by simp [codesAt]
        rw [← hr] at hl
        simp at hl; omega
      · omega
    subst this
    exact h _ _ hv

/-- the whole call -/
theorem unpack_call {prog : Program} {w : World} {A : Around} {E : Value → Shared → Prop} {s : Shared} {Q : Value → Shared → Prop} {F : Str} {tf tb : Tok} {b : Array UInt8} {ch : Char} (hc : ch = 'b' ∨ ch = 'q') {wd n it : Nat} {nat : Bool}
    (hf : Struct.moduleFormat (.str F tf) = pure ⟨false, nat, codesAt ch wd n, n * wd, it⟩) (hb : b.size = n * wd)
    (h : ∀ vs k, IntsAre vs ((List.range n).map fun i => pieceV b (i * wd) wd) → wpAny (model prog w) A.in1 (newTuple vs) Q E { s with toks := k }) :
    wpAny (model prog w) A (call (.builtin "_struct.unpack") [.str F tf, .bytes b tb]) Q E s := by
  refine call_function_entry up_kind up_plain up_entry (up_args _ _) ?_
  unfold Builtin.«_struct.unpack»
  refine wpAny_bind (wpAny_of_eq (a := ()) rfl ?_)
  refine wpAny_bind (wpAny_of_eq (a := ()) (by kernel_rfl) ?_)
  refine wpAny_bind (wpAny_of_eq (t := Struct.moduleFormat (.str F tf)) hf ?_)
  show wpAny _ _ (Struct.unpackExact "_struct.unpack" (pure _) (.bytes b tb)) _ _ _
  unfold Struct.unpackExact Bytes.bytesLike
  refine wpAny_bind ?_
  refine wpAny_bind (wpAny_of_eq KBy.buffer_eq ?_)
  refine wpAny_pure ?_
  refine wpAny_bind (wpAny_pure ?_)
  rw [if_neg (by simp [hb])]
  refine wpAny_bind (unpacked_ints hc fun vs k hv => ?_)
  refine wpAny_mono (h vs k hv) (fun v s' hq => ?_) fun _ _ e => e
  exact wpAny_pure ⟨v, rfl, hq⟩
end

section
set_option maxRecDepth 100000

theorem meets_tuple_nil : Meets (Builtin.«tuple.__new__» ⟨[.type "tuple"], []⟩) (fun _ R s => R (.ok (.ret (.ref s.heap.objs.size))) { s with heap := s.heap.push { cls := .type "tuple", data := .seq #[] } }) :=
  .of_wp fun prog w A R s h => by
    have hsub := sub_tuple_self
    have hinit := init_tuple_lookup
    have hmh := madeHere_tuple
    wp_walk
    all_goals first | exact ⟨_, rfl, h⟩ | exact h | trace_state
theorem typeCall_tuple_0 : checkTypeCall "tuple" ⟨[], []⟩ = pure () := by kernel_rfl
theorem newCall_tuple_0 : checkBuiltinCall "tuple.__new__" ⟨[.type "tuple"], []⟩ = pure () := by kernel_rfl
theorem args_init_1 (obj : Value) : argsOk "object.__init__" ⟨[obj], []⟩ := by unfold argsOk; kernel_rfl
theorem call_tuple_nil {prog : Program} {w : World} {A : Around} {E : Value → Shared → Prop} {s : Shared} {Q : Value → Shared → Prop} (h : Q (.ref s.heap.objs.size) { s with heap := s.heap.push { cls := .type "tuple", data := .seq #[] } }) : wpAny (model prog w) A (call (.type "tuple") []) Q E s :=
  callType_new F.called_tuple (by decide) typeCall_tuple_0 newCall_tuple_0 (fun obj => args_init_1 obj) F.entry_tuple_new meets_tuple_nil ⟨⟨_, Heap.get?_push_size _ rfl, rfl⟩, h⟩
end

section
set_option maxRecDepth 100000
open Builtin

/-- the lowest first -/
def leV (ks : List Int) : Int := ks.foldr (fun k t => t * 256 + k) 0
def pieceI (ks : List Int) (o wd : Nat) : Int :=
  if 2 ^ (8 * wd - 1) ≤ leV ((ks.drop o).take wd) then leV ((ks.drop o).take wd) - 2 ^ (8 * wd) else leV ((ks.drop o).take wd)

theorem leV_of (l : List UInt8) : ((l.foldr (fun c (n : Nat) => n * 256 + c.toNat) 0 : Nat) : Int) = leV (l.map fun c => ((c.toNat : Nat) : Int)) := by
  induction l with
  | nil => rfl
  | cons c r ih =>
    rw [List.foldr_cons, List.map_cons]
    show _ = leV (r.map _) * 256 + _
    rw [← ih]
    push_cast
    rfl
theorem natOf_ints (b : Array UInt8) (o wd : Nat) : ((Struct.natOf false (b.extract o (o + wd)) : Nat) : Int) = leV (((KBw.bInts b).drop o).take wd) := by
  have e : Struct.natOf false (b.extract o (o + wd)) = (b.extract o (o + wd)).toList.foldr (fun c (n : Nat) => n * 256 + c.toNat) 0 := by
    show Array.foldr _ _ _ = _
    rw [Array.foldr_toList]
    rfl
  rw [e, leV_of]
  congr 1
  rw [Array.toList_extract, KBw.bInts, ← List.map_drop, ← List.map_take]
  simp [List.extract]
theorem pieceV_ints (b : Array UInt8) (o wd : Nat) : pieceV b o wd = pieceI (KBw.bInts b) o wd := by
  unfold pieceV pieceI
  rw [← natOf_ints]
  have hc : (2 ^ (8 * wd - 1) ≤ Struct.natOf false (b.extract o (o + wd))) ↔ ((2 : Int) ^ (8 * wd - 1) ≤ ((Struct.natOf false (b.extract o (o + wd)) : Nat) : Int)) := by
    rw [← kbt_cast]
    exact Int.ofNat_le.symm
  by_cases h : 2 ^ (8 * wd - 1) ≤ Struct.natOf false (b.extract o (o + wd))
  · rw [if_pos h, if_pos (hc.mp h)]
  · rw [if_neg h, if_neg (fun q => h (hc.mpr q))]

theorem unpack_N {prog : Program} {w : World} {A : Around} {E : Value → Shared → Prop} {s : Shared} {h₀ : Heap} {L : Addr} {m : Str → Option Value} {news : List (Addr × Obj)} {Q : Value → Shared → Prop} {F : Str} {tf tb : Tok} {b : Array UInt8} {ks : List Int} {ch : Char} (hc : ch = 'b' ∨ ch = 'q') {wd n it : Nat} {nat : Bool}
    (hf : Struct.moduleFormat (.str F tf) = pure ⟨false, nat, codesAt ch wd n, n * wd, it⟩) (hk : KBw.bInts b = ks) (hb : ks.length = n * wd) (hn : n ≤ 1000) (F₀ : Fr h₀ L s.heap m) (N : News h₀ L s.heap news)
    (h : ∀ T vs h' tk', Fr h₀ L h' m → News h₀ L h' ((T, { cls := .type "tuple", data := .seq vs.toArray }) :: news) → (∀ p ∈ news, p.1 < T) → IntsAre vs ((List.range n).map fun i => pieceI ks (i * wd) wd) → Q (.ref T) { s with heap := h', toks := tk' }) :
    wpAny (model prog w) A (call (.builtin "_struct.unpack") [.str F tf, .bytes b tb]) Q E s := by
  subst hk
  refine unpack_call hc hf (by rw [← KBw.ints_length, hb]) fun vs k hv => ?_
  have e : ((List.range n).map fun i => pieceV b (i * wd) wd) = ((List.range n).map fun i => pieceI (KBw.bInts b) (i * wd) wd) := by
    congr 1; funext i; exact pieceV_ints b _ _
  rw [e] at hv
  refine newTuple_N (s := { s with toks := k }) F₀ N (fun h' F' N' => h _ vs h' k F' N' (fun p hp => Heap.lt_size (N p hp).1) hv) ?_
  rw [hv.length, List.length_map, List.length_range, sizeLine_eq]; omega

def headI (ks : List Int) : List Int := (List.range (2 * (ks.length / 16))).map fun i => pieceI (ks.take (16 * (ks.length / 16))) (i * 8) 8
def tailI (ks : List Int) : List Int := (List.range (ks.length % 16)).map fun i => pieceI (ks.drop (16 * (ks.length / 16))) (i * 1) 1

theorem fdiv16 (n : Nat) : (n : Int).fdiv 16 = ((n / 16 : Nat) : Int) := by
  rw [Int.fdiv_eq_ediv_of_nonneg _ (by decide)]; omega
theorem fmod16 (n : Nat) : (n : Int).fmod 16 = ((n % 16 : Nat) : Int) := by
  rw [Int.fmod_eq_emod_of_nonneg _ (by decide)]; omega
theorem clip16 (n : Nat) : clipAt n ((n : Int) - (n : Int).fmod 16) = 16 * (n / 16) := by
  rw [fmod16]
  have e : ((n : Int) - ((n % 16 : Nat) : Int)) = ((16 * (n / 16) : Nat) : Int) := by omega
  rw [e, clipAt_nat]
  omega

section
variable {prog : Program} {w : World} {A : Around} {E : Value → Shared → Prop} {s : Shared} {h₀ : Heap} {L : Addr} {m : Str → Option Value} {news : List (Addr × Obj)} {Q : Value → Shared → Prop} {tf tb : Tok} {b : Array UInt8} {ks : List Int}
theorem unpackQ_K (hk : KBw.bInts b = List.take (clipAt ks.length ((ks.length : Int) - (ks.length : Int).fmod 16)) ks) (hl : ks.length ≤ 63) (hne : (ks.length : Int).fdiv 16 ≠ 0) (F₀ : Fr h₀ L s.heap m) (N : News h₀ L s.heap news)
    (h : ∀ T vs h' tk', Fr h₀ L h' m → News h₀ L h' ((T, { cls := .type "tuple", data := .seq vs.toArray }) :: news) → (∀ p ∈ news, p.1 < T) → IntsAre vs (headI ks) → Q (.ref T) { s with heap := h', toks := tk' }) :
    wpAny (model prog w) A (call (.builtin "_struct.unpack") [.str (Str.ofString "<" ++ Txt.mul (Str.ofString "qq") ((ks.length : Int).fdiv 16)) tf, .bytes b tb]) Q E s := by
  rw [clip16] at hk
  rw [fdiv16] at hne ⊢
  have hd : (ks.take (16 * (ks.length / 16))).length = 2 * (ks.length / 16) * 8 := by rw [List.length_take]; omega
  refine unpack_N (.inr rfl) (F := fmtQ ((ks.length / 16 : Nat) : Int)) (wd := 8) (n := 2 * (ks.length / 16)) (it := 2 * (ks.length / 16)) (nat := false) ?_ hk hd (by omega) F₀ N h
  have e := fmtQ_is tf (ks.length / 16) (by omega) (by omega)
  rw [show 2 * (ks.length / 16) * 8 = 16 * (ks.length / 16) by omega]
  exact e
theorem unpackB_K (hk : KBw.bInts b = List.take (ks.length - clipAt ks.length ((ks.length : Int) - (ks.length : Int).fmod 16)) (List.drop (clipAt ks.length ((ks.length : Int) - (ks.length : Int).fmod 16)) ks)) (hl : ks.length ≤ 63) (F₀ : Fr h₀ L s.heap m) (N : News h₀ L s.heap news)
    (h : ∀ T vs h' tk', Fr h₀ L h' m → News h₀ L h' ((T, { cls := .type "tuple", data := .seq vs.toArray }) :: news) → (∀ p ∈ news, p.1 < T) → IntsAre vs (tailI ks) → Q (.ref T) { s with heap := h', toks := tk' }) :
    wpAny (model prog w) A (call (.builtin "_struct.unpack") [.str (Txt.mul (Str.ofString "b") ((ks.length : Int).fmod 16)) tf, .bytes b tb]) Q E s := by
  rw [clip16, List.take_of_length_le (by rw [List.length_drop]; omega)] at hk
  rw [fmod16]
  have hd : (ks.drop (16 * (ks.length / 16))).length = ks.length % 16 * 1 := by rw [List.length_drop]; omega
  refine unpack_N (.inl rfl) (F := fmtB ((ks.length % 16 : Nat) : Int)) (wd := 1) (n := ks.length % 16) (it := ks.length % 16) (nat := true) ?_ hk hd (by omega) F₀ N h
  have e := fmtB_is tf (ks.length % 16) (by omega)
  rw [Nat.mul_one]
  exact e
theorem tuple_nil_N (F₀ : Fr h₀ L s.heap m) (N : News h₀ L s.heap news)
    (h : ∀ T h', Fr h₀ L h' m → News h₀ L h' ((T, { cls := .type "tuple", data := .seq ([] : List Value).toArray }) :: news) → (∀ p ∈ news, p.1 < T) → Q (.ref T) { s with heap := h' }) :
    wpAny (model prog w) A (call (.type "tuple") []) Q E s :=
  call_tuple_nil (h _ _ (F₀.push _) (News.push F₀ N _) fun p hp => Heap.lt_size (N p hp).1)
end
end

section
open Builtin

/-! the bits of a number below 2^64 -/
theorem restF_nat (n : Nat) : ∀ k, restF (n : Int) k = ((n / 2 ^ k : Nat) : Int)
  | 0 => by simp [restF]
  | k + 1 => by
    rw [restF, restF_nat n k, Int.fdiv_eq_ediv_of_nonneg _ (by decide), Nat.pow_succ, ← Nat.div_div_eq_div_mul]
    omega
theorem bitsF_get (n : Nat) (m k : Nat) (h : k < m) : (bitsF (n : Int) m).getD k 0 = (((n / 2 ^ k) % 2 : Nat) : Int) := by
  induction m with
  | zero => omega
  | succ m ih =>
    rw [bitsF, List.getD_eq_getElem?_getD]
    rcases Nat.lt_or_ge k m with hk | hk
    · rw [List.getElem?_append_left (by rw [bitsF_length]; exact hk), ← List.getD_eq_getElem?_getD]
      exact ih hk
    · have e : k = m := by omega
      subst e
      rw [List.getElem?_append_right (by rw [bitsF_length]; omega), bitsF_length, Nat.sub_self]
      simp only [List.getElem?_cons_zero, Option.getD_some]
      rw [restF_nat, Int.fmod_eq_emod_of_nonneg _ (by decide)]
      omega
theorem bit_test (n k : Nat) : (n / 2 ^ k) % 2 = (n.testBit k).toNat := by
  rw [Nat.testBit_eq_decide_div_mod_eq]
  have : n / 2 ^ k % 2 = 0 ∨ n / 2 ^ k % 2 = 1 := by omega
  rcases this with h | h <;> simp [h]

/-- what value makes of a list of bits -/
theorem valD_shift (bs : List Int) (f : Nat → Bool) (h : ∀ k < 64, bs.getD k 0 = ((f k).toNat : Int)) (m : Nat) (hm : ∀ k < 64, m.testBit k = f k) (hlt : m < 2 ^ 64) : valD bs 64 = (m : Int) := by
  have key : ∀ j, j ≤ 64 → valD bs j = ((m / 2 ^ (64 - j) : Nat) : Int) := by
    intro j
    induction j with
    | zero => intro _; rw [Nat.sub_zero, Nat.div_eq_of_lt hlt]; rfl
    | succ j ih =>
      intro hj
      rw [valD, ih (by omega), h (63 - j) (by omega), ← hm (63 - j) (by omega), ← bit_test]
      have e : 64 - j = (63 - j) + 1 := by omega
      have e2 : 64 - (j + 1) = 63 - j := by omega
      rw [e, e2, Nat.pow_succ, ← Nat.div_div_eq_div_mul]
      omega
  rw [key 64 (Nat.le_refl _), Nat.sub_self, Nat.pow_zero, Nat.div_one]

theorem getD_rangeMap (g : Int → Int) (n k : Nat) (h : k < n) : ((rangeKs 0 n).map g).getD k 0 = g (k : Int) := by
  simp [rangeKs, List.getD_eq_getElem?_getD, h]

theorem and_low (r : Nat) : ∀ (x y : Int), 0 ≤ y → y < 2 ^ r → Builtin.bitAnd (x * 2 ^ r) y = 0 := by
  induction r with
  | zero =>
    intro x y h0 h1
    have : y = 0 := by simp at h1; omega
    subst this
    exact bitAnd_zero _
  | succ r ih =>
    intro x y h0 h1
    have e : x * 2 ^ (r + 1) = 2 * (x * 2 ^ r) := by rw [Int.pow_succ, ← Int.mul_assoc, Int.mul_comm]
    rw [Int.pow_succ] at h1
    rw [kbt_halves, e]
    have e2 : 2 * (x * 2 ^ r) / 2 = x * 2 ^ r := by omega
    rw [e2, ih x (y / 2) (by omega) (by omega), if_neg (by omega)]
    rfl
theorem or_low (r : Nat) (x y : Int) (h0 : 0 ≤ y) (h1 : y < 2 ^ r) : Builtin.bitOr (x * 2 ^ r) y = x * 2 ^ r + y := by
  rw [bitOr_and, and_low r x y h0 h1]
  omega

/-- the 64 bits turned -/
def rotN (n r : Nat) : Nat := 2 ^ r * (n % 2 ^ (64 - r)) + n / 2 ^ (64 - r)
theorem rot_low (n r : Nat) (hr : r ≤ 64) (hn : n < 2 ^ 64) : n / 2 ^ (64 - r) < 2 ^ r := by
  rw [Nat.div_lt_iff_lt_mul (Nat.two_pow_pos _), ← Nat.pow_add]
  have e : r + (64 - r) = 64 := by omega
  rw [e]; exact hn
theorem rotN_lt (n r : Nat) (hr : r ≤ 64) (hn : n < 2 ^ 64) : rotN n r < 2 ^ 64 := by
  have h1 := rot_low n r hr hn
  have h2 := Nat.mod_lt n (Nat.two_pow_pos (64 - r))
  have e : 2 ^ 64 = 2 ^ r * 2 ^ (64 - r) := by rw [← Nat.pow_add]; congr 1; omega
  rw [e]
  unfold rotN
  have h3 : 2 ^ r * (n % 2 ^ (64 - r) + 1) ≤ 2 ^ r * 2 ^ (64 - r) := Nat.mul_le_mul_left _ h2
  rw [Nat.mul_add, Nat.mul_one] at h3
  omega
theorem rotN_bit (n r k : Nat) (h1 : 1 ≤ r) (hr : r ≤ 63) (hn : n < 2 ^ 64) (hk : k < 64) : (rotN n r).testBit k = n.testBit (((k : Int) - (r : Int)).fmod 64).toNat := by
  unfold rotN
  rw [Nat.testBit_two_pow_mul_add _ (rot_low n r (by omega) hn), Int.fmod_eq_emod_of_nonneg _ (by decide)]
  by_cases h : k < r
  · rw [if_pos h, Nat.testBit_div_two_pow]
    congr 1
    omega
  · rw [if_neg h, Nat.testBit_mod_two_pow, decide_eq_true (by omega), Bool.true_and]
    congr 1
    omega

theorem nat64 (x : Int) : ∃ n : Nat, x.fmod (2 ^ Int.toNat 64) = (n : Int) ∧ x.fmod 18446744073709551616 = (n : Int) ∧ n < 2 ^ 64 ∧ ∃ q : Int, x = q * 18446744073709551616 + n := by
  have e : ((2 : Int) ^ Int.toNat 64) = 18446744073709551616 := by decide +kernel
  rw [e, Int.fmod_eq_emod_of_nonneg _ (by decide)]
  refine ⟨(x % 18446744073709551616).toNat, by omega, by omega, by omega, x / 18446744073709551616, by omega⟩
theorem rotV_nat {x q : Int} {n r : Nat} (hr : r ≤ 64) (hn : n < 2 ^ 64) (hx : x = q * 18446744073709551616 + n) : (rotV x r).fmod 18446744073709551616 = (rotN n r : Nat) := by
  have eA : ((2 ^ (64 - r) : Nat) : Int) = 2 ^ (64 - r) := kbt_cast _
  have eC : ((2 ^ r : Nat) : Int) = 2 ^ r := kbt_cast _
  have eAC : (2 ^ (64 - r) : Int) * 2 ^ r = 18446744073709551616 := by
    rw [← Int.pow_add]
    have : 64 - r + r = 64 := by omega
    rw [this]; decide +kernel
  have t1 : (64 - (r : Int)).toNat = 64 - r := by omega
  have low := rot_low n r hr hn
  have hm := Nat.mod_lt n (Nat.two_pow_pos (64 - r))
  have hd := Nat.div_add_mod n (2 ^ (64 - r))
  have hlt := rotN_lt n r hr hn
  unfold rotN at hlt ⊢
  generalize hna : n / 2 ^ (64 - r) = na at *
  generalize hnm : n % 2 ^ (64 - r) = nm at *
  generalize hA : (2 : Int) ^ (64 - r) = A at *
  generalize hC : (2 : Int) ^ r = C at *
  have hA0 : 0 < A := hA ▸ kbt_pos _
  have hC0 : 0 < C := hC ▸ kbt_pos _
  have hn' : (n : Int) = A * na + nm := by rw [← eA]; exact_mod_cast hd.symm
  have hxA : x / A = q * C + na := by
    have : x = nm + A * (q * C + na) := by rw [hx, hn', ← eAC]; grind
    exact (kbt_unique hA0 this.symm (by omega) (by rw [← eA]; exact_mod_cast hm)).1
  have hy : (x / A) % C = na := by
    exact (kbt_unique hC0 (q := q) (by rw [hxA]; grind) (by omega) (by rw [← eC]; exact_mod_cast low)).2
  have hv : rotV x r = x * C + na := by
    unfold rotV
    rw [t1, hA, show ((r : Nat) : Int).toNat = r from rfl, kbt_maskF, hC, Int.fdiv_eq_ediv_of_nonneg _ (Int.le_of_lt hA0), Int.fmod_eq_emod_of_nonneg _ (Int.le_of_lt hC0), hy, ← hC]
    exact or_low r x na (by omega) (by rw [hC, ← eC]; exact_mod_cast low)
  rw [hv, Int.fmod_eq_emod_of_nonneg _ (by decide)]
  have hfin : ((2 ^ r * nm + na : Nat) : Int) = C * nm + na := by rw [Int.natCast_add, Int.natCast_mul, eC]
  have hlt' : ((2 ^ r * nm + na : Nat) : Int) < 18446744073709551616 := by
    rw [show (2 : Nat) ^ 64 = 18446744073709551616 from by decide +kernel] at hlt
    generalize 2 ^ r * nm + na = z at hlt ⊢
    omega
  refine (kbt_unique (by decide) (q := q * C + na) ?_ (Int.natCast_nonneg _) hlt').2
  rw [hfin, ← eAC, hx, hn', ← eAC]
  grind

theorem turn_eq {x r : Int} (h1 : 1 ≤ r) (h2 : r ≤ 63) : turnV x r = (rotV x r).fmod 18446744073709551616 := by
  obtain ⟨r, rfl⟩ : ∃ n : Nat, r = n := ⟨r.toNat, by omega⟩
  obtain ⟨n, e1, e2, hn, q, hx⟩ := nat64 x
  rw [rotV_nat (by omega) hn hx]
  unfold turnV
  rw [e1]
  refine valD_shift _ (fun k => n.testBit (((k : Int) - (r : Int)).fmod 64).toNat) (fun k hk => ?_) _ (fun k hk => rotN_bit n r k (by omega) (by omega) hn hk) (rotN_lt n r (by omega) hn)
  rw [show (64 - 0 : Int).toNat = 64 from rfl, getD_rangeMap _ _ _ hk, bitsF_get _ _ _ (by rw [Int.fmod_eq_emod_of_nonneg _ (by decide)]; omega), bit_test]
end

section
open Builtin

theorem and_off (k : Nat) : ∀ (q n y : Int), 0 ≤ y → y < 2 ^ k → Builtin.bitAnd (q * 2 ^ k + n) y = Builtin.bitAnd n y := by
  induction k with
  | zero =>
    intro q n y h0 h1
    have : y = 0 := by simp at h1; omega
    subst this
    rw [bitAnd_zero, bitAnd_zero]
  | succ k ih =>
    intro q n y h0 h1
    have e : q * 2 ^ (k + 1) = 2 * (q * 2 ^ k) := by rw [Int.pow_succ, ← Int.mul_assoc, Int.mul_comm]
    rw [Int.pow_succ] at h1
    rw [kbt_halves, kbt_halves n y, e]
    have e2 : (2 * (q * 2 ^ k) + n) / 2 = q * 2 ^ k + n / 2 := by omega
    have e3 : (2 * (q * 2 ^ k) + n) % 2 = n % 2 := by omega
    rw [e2, e3, ih q (n / 2) (y / 2) (by omega) (by omega)]

theorem xor_and (n : Nat) : ∀ y : Nat, (n ^^^ y) + 2 * (n &&& y) = n + y := by
  induction n using Nat.strongRecOn with
  | ind n ih =>
    intro y
    rcases Nat.eq_zero_or_pos n with h | h
    · subst h; simp
    · have h1 := ih (n / 2) (by omega) (y / 2)
      have h2 : (n ^^^ y) / 2 = n / 2 ^^^ y / 2 := Nat.xor_div_two
      have h3 : (n &&& y) / 2 = n / 2 &&& y / 2 := Nat.and_div_two
      have h4 := @Nat.and_mod_two_eq_one n y
      have h5 := @Nat.xor_mod_two_eq_one n y
      rw [← h2, ← h3] at h1
      by_cases a : n % 2 = 1 <;> by_cases b : y % 2 = 1
      · have := h4.mpr ⟨a, b⟩
        have : (n ^^^ y) % 2 ≠ 1 := fun q => (h5.mp q) ⟨fun _ => b, fun _ => a⟩
        omega
      · have : (n &&& y) % 2 ≠ 1 := fun q => b (h4.mp q).2
        have := h5.mpr (fun q => b (q.mp a))
        omega
      · have : (n &&& y) % 2 ≠ 1 := fun q => a (h4.mp q).1
        have := h5.mpr (fun q => a (q.mpr b))
        omega
      · have : (n &&& y) % 2 ≠ 1 := fun q => a (h4.mp q).1
        have : (n ^^^ y) % 2 ≠ 1 := fun q => (h5.mp q) ⟨fun z => absurd z a, fun z => absurd z b⟩
        omega

def shN (n : Nat) : Nat := n ^^^ (n / 8589934592)
theorem shN_lt {n : Nat} (hn : n < 2 ^ 64) : shN n < 2 ^ 64 := Nat.xor_lt_two_pow hn (Nat.lt_of_le_of_lt (Nat.div_le_self _ _) hn)

theorem shV_nat {x q : Int} {n : Nat} (hn : n < 2 ^ 64) (hx : x = q * 18446744073709551616 + n) : shV x = q * 18446744073709551616 + (shN n : Nat) := by
  rw [show (2 : Nat) ^ 64 = 18446744073709551616 from by decide +kernel] at hn
  have e33 : ((2 : Int) ^ Int.toNat 33) = 8589934592 := by decide +kernel
  have e31 : (2147483647 : Int) = 2 ^ 31 - 1 := by decide +kernel
  have e31' : ((2 : Int) ^ 31) = 2147483648 := by decide +kernel
  unfold shV
  rw [e31, kbt_maskF, e33, e31', Int.fdiv_eq_ediv_of_nonneg _ (by decide), Int.fmod_eq_emod_of_nonneg _ (by decide), bitXor_and]
  have hy : x / 8589934592 % 2147483648 = ((n / 8589934592 : Nat) : Int) := by omega
  rw [hy]
  have ha : Builtin.bitAnd x ((n / 8589934592 : Nat) : Int) = ((n &&& (n / 8589934592) : Nat) : Int) := by
    have e64 : ((2 : Int) ^ 64) = 18446744073709551616 := by decide +kernel
    rw [hx, ← e64, and_off 64 q n _ (Int.natCast_nonneg _) (by rw [e64]; omega), bitAnd_pp (Int.natCast_nonneg _) (Int.natCast_nonneg _)]
    rfl
  rw [ha, hx]
  have h := xor_and n (n / 8589934592)
  unfold shN
  omega

theorem shiftV_nat {x q : Int} {n : Nat} (hn : n < 2 ^ 64) (hx : x = q * 18446744073709551616 + n) : shiftV x = (shN n : Nat) := by
  have e64 : ((2 : Int) ^ Int.toNat 64) = 18446744073709551616 := by decide +kernel
  have hn' := hn
  rw [show (2 : Nat) ^ 64 = 18446744073709551616 from by decide +kernel] at hn'
  have e1 : x.fmod (2 ^ Int.toNat 64) = (n : Int) := by rw [e64, Int.fmod_eq_emod_of_nonneg _ (by decide)]; omega
  unfold shiftV
  rw [e1]
  refine valD_shift _ (fun k => (shN n).testBit k) (fun k hk => ?_) _ (fun _ _ => rfl) (shN_lt hn)
  rw [show (64 - 0 : Int).toNat = 64 from rfl, getD_rangeMap _ _ _ hk]
  have eb : (shN n).testBit k = (n.testBit k ^^ n.testBit (33 + k)) := by
    unfold shN
    rw [Nat.testBit_xor, show (8589934592 : Nat) = 2 ^ 33 from by decide +kernel, Nat.testBit_div_two_pow, Nat.add_comm]
  have ek : (k : Int).toNat = k := rfl
  rw [eb, ek, bitsF_get _ _ _ hk, bit_test]
  by_cases h : (k : Int) + 33 < 64
  · have ek2 : ((k : Int) + 33).toNat = 33 + k := by omega
    rw [if_pos h, ek2, bitsF_get _ _ _ (by omega), bit_test]
    cases n.testBit k <;> cases n.testBit (33 + k) <;> rfl
  · rw [if_neg h]
    have : n.testBit (33 + k) = false := Nat.testBit_lt_two_pow (Nat.lt_of_lt_of_le hn (Nat.pow_le_pow_right (by decide) (by omega)))
    rw [this]
    cases n.testBit k <;> rfl

theorem mix_eq (x : Int) : mixV x = (fmixV x).fmod 18446744073709551616 := by
  have e64 : ((2 : Int) ^ Int.toNat 64) = 18446744073709551616 := by decide +kernel
  have p64 : (2 : Nat) ^ 64 = 18446744073709551616 := by decide +kernel
  obtain ⟨n, _, _, hn, q, hx⟩ := nat64 x
  have s0 := shV_nat hn hx
  have l0 := shiftV_nat hn hx
  have b0 := shN_lt hn
  unfold mixV fmixV
  rw [s0, l0, e64]
  generalize shN n = m0 at b0
  -- the first product
  have hn1 : m0 * 18397679294719823053 % 18446744073709551616 < 2 ^ 64 := by rw [p64]; omega
  have f1 : ((m0 : Int) * 18397679294719823053).fmod 18446744073709551616 = 0 * 18446744073709551616 + ((m0 * 18397679294719823053 % 18446744073709551616 : Nat) : Int) := by
    rw [Int.fmod_eq_emod_of_nonneg _ (by decide)]; omega
  have f2 : (q * 18446744073709551616 + (m0 : Int)) * 18397679294719823053 = (q * 18397679294719823053 + ((m0 * 18397679294719823053 / 18446744073709551616 : Nat) : Int)) * 18446744073709551616 + ((m0 * 18397679294719823053 % 18446744073709551616 : Nat) : Int) := by omega
  generalize m0 * 18397679294719823053 % 18446744073709551616 = n1 at hn1 f1 f2
  generalize q * 18397679294719823053 + ((m0 * 18397679294719823053 / 18446744073709551616 : Nat) : Int) = q1 at f2
  rw [shV_nat hn1 f2, shiftV_nat hn1 f1]
  have b1 := shN_lt hn1
  generalize shN n1 = m1 at b1
  have hn2 : m1 * 14181476777654086739 % 18446744073709551616 < 2 ^ 64 := by rw [p64]; omega
  have g1 : ((m1 : Int) * 14181476777654086739).fmod 18446744073709551616 = 0 * 18446744073709551616 + ((m1 * 14181476777654086739 % 18446744073709551616 : Nat) : Int) := by
    rw [Int.fmod_eq_emod_of_nonneg _ (by decide)]; omega
  have g2 : (q1 * 18446744073709551616 + (m1 : Int)) * 14181476777654086739 = (q1 * 14181476777654086739 + ((m1 * 14181476777654086739 / 18446744073709551616 : Nat) : Int)) * 18446744073709551616 + ((m1 * 14181476777654086739 % 18446744073709551616 : Nat) : Int) := by omega
  generalize m1 * 14181476777654086739 % 18446744073709551616 = n2 at hn2 g1 g2
  generalize q1 * 14181476777654086739 + ((m1 * 14181476777654086739 / 18446744073709551616 : Nat) : Int) = q2 at g2
  rw [shV_nat hn2 g2, shiftV_nat hn2 g1]
  have b2 := shN_lt hn2
  rw [p64] at b2
  rw [Int.fmod_eq_emod_of_nonneg _ (by decide)]
  omega
end

section
noncomputable def bodyTo (os : List Int) : Nat → List Int
  | 0 => []
  | n + 1 => bodyTo os n ++ [signV ((os.drop (8 * n)).take 8)]
theorem bodyTo_map (os : List Int) : ∀ n, bodyTo os n = (List.range n).map fun i => signV ((os.drop (8 * i)).take 8)
  | 0 => rfl
  | n + 1 => by rw [bodyTo, bodyTo_map os n, List.range_succ, List.map_append]; rfl
theorem horn_rev (l : List Int) : hornV l.reverse = leV l := by
  unfold hornV leV
  rw [List.foldl_reverse]
theorem piece8 (l : List Int) (hl : l.length = 8) (h : ∀ o ∈ l, 0 ≤ o ∧ o < 256) : (if 2 ^ (8 * 8 - 1) ≤ leV l then leV l - 2 ^ (8 * 8) else leV l) = signV l := by
  have e63 : ((2 : Int) ^ (8 * 8 - 1)) = 9223372036854775808 := by decide +kernel
  have e64 : ((2 : Int) ^ (8 * 8)) = 18446744073709551616 := by decide +kernel
  have e256 : ((256 : Int) ^ Int.toNat 8) = 18446744073709551616 := by decide +kernel
  unfold signV
  rw [horn_rev, e63, e64, e256]
  match l, hl with
  | [a, b, c, d, e, f, g, i], _ =>
    have ha := h a (by simp)
    have hb := h b (by simp)
    have hc := h c (by simp)
    have hd := h d (by simp)
    have he := h e (by simp)
    have hf := h f (by simp)
    have hg := h g (by simp)
    have hi := h i (by simp)
    have ev : leV [a, b, c, d, e, f, g, i] = ((((((((0 * 256 + i) * 256 + g) * 256 + f) * 256 + e) * 256 + d) * 256 + c) * 256 + b) * 256 + a) := rfl
    have eg : ([a, b, c, d, e, f, g, i] : List Int).getD 7 0 = i := rfl
    rw [ev, eg]
    by_cases q : 128 ≤ i
    · rw [if_pos q, if_pos (by omega)]
    · rw [if_neg q, if_neg (by omega)]
theorem head_eq (os : List Int) (h : KBa.In os) : headI os = bodyTo os (2 * (os.length / 16)) := by
  rw [bodyTo_map]
  unfold headI
  refine List.map_congr_left fun i hi => ?_
  have hi' := List.mem_range.mp hi
  unfold pieceI
  have e : ((os.take (16 * (os.length / 16))).drop (i * 8)).take 8 = (os.drop (8 * i)).take 8 := by
    rw [List.drop_take, List.take_take]
    congr 1
    · omega
    · congr 1; omega
  rw [e]
  refine piece8 _ (by rw [List.length_take, List.length_drop]; omega) fun o ho => h o (List.mem_of_mem_drop (List.mem_of_mem_take ho))
theorem tail_eq (os : List Int) (h : KBa.In os) : tailI os = List.map (fun k' => if 128 ≤ k' then k' - 256 else k') (List.drop (16 * (os.length / 16)) os) := by
  unfold tailI
  generalize hl : List.drop (16 * (os.length / 16)) os = l
  have hlen : os.length % 16 = l.length := by rw [← hl, List.length_drop]; omega
  have hin : ∀ o ∈ l, 0 ≤ o ∧ o < 256 := fun o ho => h o (List.mem_of_mem_drop (hl ▸ ho))
  rw [hlen]
  refine List.ext_getElem (by simp) fun i h1 h2 => ?_
  have hi : i < l.length := by simpa using h1
  rw [List.getElem_map, List.getElem_map, List.getElem_range]
  unfold pieceI
  have e : (l.drop (i * 1)).take 1 = [l[i]] := by
    rw [Nat.mul_one, List.drop_eq_getElem_cons hi]
    rfl
  have ho := hin l[i] (List.getElem_mem hi)
  have ev : leV [l[i]] = 0 * 256 + l[i] := rfl
  rw [e, ev]
  have e7 : ((2 : Int) ^ (8 * 1 - 1)) = 128 := by decide +kernel
  have e8 : ((2 : Int) ^ (8 * 1)) = 256 := by decide +kernel
  rw [e7, e8]
  by_cases q : 128 ≤ l[i]
  · rw [if_pos q, if_pos (by omega)]; omega
  · rw [if_neg q, if_neg (by omega)]; omega
end

section
section
variable {w : World} {mean : ExcName → Option Value} {mg mb : Str → Option Value} {dp un : Nat} {gd : Option (List Code)} {cn : Str} {cs : Scope} {a : Addr} {ccd : Value} {cl : List (Str × Addr)} {outer : List Env} {A₀ : Around} {base h₀ : Heap} {L : Addr} {m : Str → Option Value} {news : List (Addr × Obj)} {s : Shared} {Q E : Value → Shared → Prop}

set_option maxRecDepth 100000 in
set_option maxHeartbeats 8000000 in
theorem truncate_says {x : Int} {tx : Tok} (B : Below A₀ base outer h₀) (F : Fr h₀ L s.heap m) (X : (hd.heap_39 w.params).In h₀) (N : News h₀ L s.heap news) (T : Top hd.view_39 (looseW hd.view_39 []) mean mg mb h₀) (hk : cs.kind = .function) (hdp : dp + 1 < recursionLimit) (hun : un + 8 < cLine)
    (hret : ∀ t h' tk', Fr h₀ L h' m → News h₀ L h' news → Q (.int (trunc64 x) t) { s with heap := h', toks := tk' }) :
    wpAny (model PySem.Challenge.rw_bq5004_01.row.prog w) (ktrTop dp un gd cn cs L a ccd cl outer) (call (.ref 70) [.int x tx]) Q E s := by
  w_top off
  k_with_none
  revert X; k_fill; intro X
  refine wpAny_call ?_
  k_dflt cell_enter
  k_steps
  all_goals refine cb_retI (Q := Q) (s := s) hret ?_ (by k_asm) (by k_asm)
  all_goals (unfold trunc64; first | rw [if_pos ⟨by omega, by omega⟩] | rw [if_neg (by omega)])

section
local macro_rules | `(tactic| walk_at "binaryOp LShift int int") => `(tactic| (k_here; (refine lshift_int (by omega) (by omega) ?_)))
set_option maxRecDepth 100000 in
set_option maxHeartbeats 8000000 in
theorem rotl_says {x r : Int} {tx tr : Tok} (hx : Builtin.Int.intBits x ≤ 2000000) (h1 : 1 ≤ r) (h2 : r ≤ 63) (B : Below A₀ base outer h₀) (F : Fr h₀ L s.heap m) (X : (hd.heap_39 w.params).In h₀) (N : News h₀ L s.heap news) (T : Top hd.view_39 (looseW hd.view_39 []) mean mg mb h₀) (hk : cs.kind = .function) (hdp : dp + 1 < recursionLimit) (hun : un + 8 < cLine)
    (hret : ∀ t h' tk', Fr h₀ L h' m → News h₀ L h' news → Q (.int (rotV x r) t) { s with heap := h', toks := tk' }) :
    wpAny (model PySem.Challenge.rw_bq5004_01.row.prog w) (ktrTop dp un gd cn cs L a ccd cl outer) (call (.ref 56) [.int x tx, .int r tr]) Q E s := by
  w_top off
  k_with_none
  revert X; k_fill; intro X
  refine wpAny_call ?_
  k_dflt cell_enter
  k_steps
  all_goals exact cb_retI (Q := Q) (s := s) hret rfl (by k_asm) (by k_asm)
end

set_option maxRecDepth 100000 in
set_option maxHeartbeats 8000000 in
theorem fmix_says {x : Int} {tx : Tok} (hx : Builtin.Int.intBits x ≤ 2000000) (B : Below A₀ base outer h₀) (F : Fr h₀ L s.heap m) (X : (hd.heap_39 w.params).In h₀) (N : News h₀ L s.heap news) (T : Top hd.view_39 (looseW hd.view_39 []) mean mg mb h₀) (hk : cs.kind = .function) (hdp : dp + 1 < recursionLimit) (hun : un + 8 < cLine)
    (hret : ∀ t h' tk', Fr h₀ L h' m → News h₀ L h' news → Q (.int (fmixV x) t) { s with heap := h', toks := tk' }) :
    wpAny (model PySem.Challenge.rw_bq5004_01.row.prog w) (ktrTop dp un gd cn cs L a ccd cl outer) (call (.ref 63) [.int x tx]) Q E s := by
  w_top off
  k_with_none
  revert X; k_fill; intro X
  refine wpAny_call ?_
  k_dflt cell_enter
  k_steps
  all_goals exact cb_retI (Q := Q) (s := s) hret rfl (by k_asm) (by k_asm)
end
end

section
section
variable {w : World} {mean : ExcName → Option Value} {mg mb : Str → Option Value} {dp un : Nat} {gd : Option (List Code)} {cn : Str} {cs : Scope} {a : Addr} {ccd : Value} {cl : List (Str × Addr)} {outer : List Env} {A₀ : Around} {base h₀ : Heap} {L : Addr} {m : Str → Option Value} {news : List (Addr × Obj)} {s : Shared} {Q E : Value → Shared → Prop}

theorem bits_start {v : Int} : v = restF v ([] : List Int).length ∧ ([] : List Int) = bitsF v ([] : List Int).length ∧ ([] : List Int).length = ([] : List Int).length := ⟨rfl, rfl, rfl⟩
theorem bits_state {v : Int} {pre : List Int} {k rest : Int} {bits : List Int} (h : rest = restF v pre.length ∧ bits = bitsF v pre.length ∧ bits.length = pre.length) : rest.fdiv 2 = restF v (pre ++ [k]).length ∧ bits ++ [rest.fmod 2] = bitsF v (pre ++ [k]).length ∧ (bits ++ [rest.fmod 2]).length = (pre ++ [k]).length := by
  rw [List.length_append]
  obtain ⟨h1, h2, h3⟩ := h
  refine ⟨by subst h1; rfl, by subst h1 h2; rfl, by simp [h3]⟩

local macro_rules | `(tactic| walk_at "storeName") => `(tactic| dsimp only)
local macro_rules | `(tactic| walk_at "pyIter ref") => `(tactic| k_extra "pyIter ref")
set_option maxRecDepth 100000 in
set_option maxHeartbeats 8000000 in
theorem bits_says {x : Int} {tx : Tok} (B : Below A₀ base outer h₀) (F : Fr h₀ L s.heap m) (X : (hd.heap_39 w.params).In h₀) (N : News h₀ L s.heap news) (T : Top hd.view_39 (looseW hd.view_39 []) mean mg mb h₀) (hk : cs.kind = .function) (hdp : dp + 1 < recursionLimit) (hun : un + 8 < cLine)
    (hret : ∀ b vs c ns h' tk', Fr h₀ L h' m → News h₀ L h' ((b, listOf vs.toArray c) :: news) → (∀ p ∈ news, p.1 < b) → IntsAre vs ns → ns.length = 64 → ns = bitsF (x.fmod (2 ^ Int.toNat 64)) 64 → Q (.ref b) { s with heap := h', toks := tk' }) :
    wpAny (model PySem.Challenge.rw_bq5004_01.row.prog w) (ktrTop dp un gd cn cs L a ccd cl outer) (call (.ref 77) [.int x tx]) Q E s := by
  w_top off
  k_with_none
  revert X; k_fill; intro X
  k_with "pyIter ref" => k_state (fun pre rest bits => rest = restF (x.fmod (2 ^ Int.toNat 64)) pre.length ∧ bits = bitsF (x.fmod (2 ^ Int.toNat 64)) pre.length ∧ bits.length = pre.length) "rest" "bits"
  k_with "state" => first | exact bits_start | exact bits_state (by assumption)
  have hI0 : IntsAre [] [] := IntsAre.nil
  refine wpAny_call ?_
  k_dflt cell_enter
  k_steps
  · (with_reducible rename _ = bitsF _ _ => hb)
    (with_reducible rename IntsAre _ _ => hi)
    rw [rangeKs_length] at hb
    exact hret _ _ _ _ _ _ (by k_asm) (by k_asm) (by assumption) hi (by rw [hb]; exact bitsF_length _ _) hb
end
end

section
section
variable {w : World} {mean : ExcName → Option Value} {mg mb : Str → Option Value} {dp un : Nat} {gd : Option (List Code)} {cn : Str} {cs : Scope} {a : Addr} {ccd : Value} {cl : List (Str × Addr)} {outer : List Env} {A₀ : Around} {base h₀ : Heap} {L : Addr} {m : Str → Option Value} {news : List (Addr × Obj)} {s : Shared} {Q E : Value → Shared → Prop}

local macro_rules | `(tactic| walk_at "never0") => `(tactic| fail)
local macro_rules | `(tactic| walk_at "storeName") => `(tactic| dsimp only)
local macro_rules | `(tactic| walk_at "pyIter ref") => `(tactic| k_extra "pyIter ref")
theorem value_start {bs : List Int} : 0 = valD bs ([] : List Int).length := rfl
theorem value_state {bs : List Int} {pre : List Int} {k total : Int} (h : total = valD bs pre.length) (hk : k = 63 - (pre.length : Int)) (hlt : pre.length < (63 - -1 : Int).toNat) : total * 2 + bs.getD k.toNat 0 = valD bs (pre ++ [k]).length := by
  rw [List.length_append]
  have e : (63 - pre.length : Nat) = k.toNat := by omega
  subst h
  show _ = valD bs pre.length * 2 + bs.getD (63 - pre.length) 0
  rw [e]

set_option maxRecDepth 100000 in
set_option maxHeartbeats 8000000 in
theorem value_says {l : Addr} {vs : List Value} {bs : List Int} {c : Nat} (hm : (l, listOf vs.toArray c) ∈ news) (hi : IntsAre vs bs) (hl : bs.length = 64) (B : Below A₀ base outer h₀) (F : Fr h₀ L s.heap m) (X : (hd.heap_39 w.params).In h₀) (N : News h₀ L s.heap news) (T : Top hd.view_39 (looseW hd.view_39 []) mean mg mb h₀) (hk : cs.kind = .function) (hdp : dp + 1 < recursionLimit) (hun : un + 8 < cLine)
    (hret : ∀ t h' tk', Fr h₀ L h' m → News h₀ L h' news → Q (.int (valD bs 64) t) { s with heap := h', toks := tk' }) :
    wpAny (model PySem.Challenge.rw_bq5004_01.row.prog w) (ktrTop dp un gd cn cs L a ccd cl outer) (call (.ref 84) [.ref l]) Q E s := by
  w_top off
  k_with_none
  revert X; k_fill; intro X
  k_with "pyIter ref" => k_state (fun pre total => total = valD bs pre.length) "total"
  k_with "state" => first | exact value_start | exact value_state (by with_reducible assumption) (by with_reducible assumption) (by with_reducible assumption)
  have hI0 : IntsAre [] [] := IntsAre.nil
  refine wpAny_call ?_
  k_dflt cell_enter
  k_steps
  · (with_reducible rename _ = valD _ _ => hv)
    rw [downKs_length] at hv
    exact cb_retI (Q := Q) (s := s) hret hv (by k_asm) (by k_asm)
end
end

section
theorem allLt_mono {a b : Addr} {l : List (Addr × Obj)} (h : AllLt a l) (hab : a ≤ b) : AllLt b l := allLt_of fun p hp => Nat.lt_of_lt_of_le (kst_ltOf h p hp) hab
section
variable {w : World} {mean : ExcName → Option Value} {mg mb : Str → Option Value} {dp un : Nat} {gd : Option (List Code)} {cn : Str} {cs : Scope} {a : Addr} {ccd : Value} {cl : List (Str × Addr)} {outer : List Env} {A₀ : Around} {base h₀ : Heap} {L : Addr} {m : Str → Option Value} {news : List (Addr × Obj)} {s : Shared} {Q E : Value → Shared → Prop}

local macro_rules | `(tactic| walk_at "never0") => `(tactic| fail)
local macro_rules | `(tactic| walk_at "storeName") => `(tactic| dsimp only)
local macro_rules | `(tactic| walk_at "call ref") => `(tactic| (k_here; (with_reducible show wpAny _ _ (call (Value.ref 77) _) _ _ _); k_dflt (refine' bits_says ?k1 ?k2 ?k3 ?k4 ?k5 ?kK ?kd ?ku ?_; (case k1 => k_asm); (case k2 => k_asm); (case k3 => k_asm); (case k4 => k_asm); (case k5 => k_asm); (case kK => first | exact rfl | assumption); (case kd => ktr_room); (case ku => ktr_units); k_whole); intro l' vs' c' ns' h' tk' F' N' l1' hI' hlen' heq'; (try k_lt l1'); (try dsimp only); (try k_fold)))

local macro_rules | `(tactic| walk_at "call ref") => `(tactic| (k_here; (with_reducible show wpAny _ _ (call (Value.ref 84) _) _ _ _); k_dflt (refine' value_says ?ka ?kb ?kc ?k1 ?k2 ?k3 ?k4 ?k5 ?kK ?kd ?ku ?_; (case k1 => k_asm); (case k2 => k_asm); (case k3 => k_asm); (case k4 => k_asm); (case k5 => k_asm); (case ka => k_mem); (case kb => l_ints); (case kc => first | assumption | (simp only [List.length_map, rangeKs_length]; rfl)); (case kK => first | exact rfl | assumption); (case kd => ktr_room); (case ku => ktr_units); k_whole); intro t' h' tk' F' N'; (try dsimp only); (try k_fold)))

set_option maxRecDepth 100000 in
set_option maxHeartbeats 8000000 in
theorem turned_says {x r : Int} {tx tr : Tok} (h1 : 1 ≤ r) (h2 : r ≤ 63) (B : Below A₀ base outer h₀) (F : Fr h₀ L s.heap m) (X : (hd.heap_39 w.params).In h₀) (N : News h₀ L s.heap news) (T : Top hd.view_39 (looseW hd.view_39 []) mean mg mb h₀) (hk : cs.kind = .function) (hdp : dp + 2 < recursionLimit) (hun : un + 20 < cLine)
    (hret : ∀ t h' tk', Fr h₀ L h' m → News h₀ L h' news → Q (.int (turnV x r) t) { s with heap := h', toks := tk' }) :
    wpAny (model PySem.Challenge.rw_bq5004_01.row.prog w) (ktrTop dp un gd cn cs L a ccd cl outer) (call (.ref 89) [.int x tx, .int r tr]) Q E s := by
  w_top off
  k_with_none
  revert X; k_fill; intro X
  have hI0 : IntsAre [] [] := IntsAre.nil
  refine wpAny_call ?_
  k_dflt (refine' code_defC ?k1 ?k2 ?k3 ?k4 ?k5 ?kA ?kF ?kK ?k6 ?k7 ?k8 ?k9 ?kB ?kD ?_ ?c2 ?c3 ?c4; (case kA => exact rfl); (case kF => exact rfl); (case kK => assumption); (case k1 => k_asm); (case k2 => k_asm); (case k3 => k_asm); (case k4 => k_asm); (case k5 => k_asm); (case k6 => k_is); (case k7 => k_is); (case k8 => ktr_room); (case k9 => exact BindsTo.of_eq rfl); (case kB => exact rfl); (case kD => decide +kernel); (case c2 => exact rfl); (case c3 => exact rfl); (case c4 => exact rfl); k_whole; intro g' L' h' tk' cells' FG' F' N' Y' B' X' T' l1; (try k_lt l1); k_cells Y'; (try simp only [List.cons_append, List.nil_append] at N'); (try dsimp only); (try k_lift B'); (try k_fold))
  have kMk : KstMark := kstMark
  have lz1 := allLt_mono (allLt_of l1) (Nat.le_succ L')
  have lz2 := allLt_mono lz1 (Nat.le_succ (L' + 1))
  k_steps
  · (with_reducible rename _ = bitsF _ _ => heq)
    refine cb_retI (Q := Q) (s := s) hret ?_ (by k_asm) (by first | k_asm | exact cb_drop (by k_asm) (by kcj_all))
    unfold turnV
    rw [heq]
end
end

section
section
variable {w : World} {mean : ExcName → Option Value} {mg mb : Str → Option Value} {dp un : Nat} {gd : Option (List Code)} {cn : Str} {cs : Scope} {a : Addr} {ccd : Value} {cl : List (Str × Addr)} {outer : List Env} {A₀ : Around} {base h₀ : Heap} {L : Addr} {m : Str → Option Value} {news : List (Addr × Obj)} {s : Shared} {Q E : Value → Shared → Prop}

local macro_rules | `(tactic| walk_at "never0") => `(tactic| fail)
local macro_rules | `(tactic| walk_at "never1") => `(tactic| fail)
local macro_rules | `(tactic| walk_at "storeName") => `(tactic| dsimp only)
local macro_rules | `(tactic| walk_at "call ref") => `(tactic| (k_here; (with_reducible show wpAny _ _ (call (Value.ref 77) _) _ _ _); k_dflt (refine' bits_says ?k1 ?k2 ?k3 ?k4 ?k5 ?kK ?kd ?ku ?_; (case k1 => k_asm); (case k2 => k_asm); (case k3 => k_asm); (case k4 => k_asm); (case k5 => k_asm); (case kK => first | exact rfl | assumption); (case kd => ktr_room); (case ku => ktr_units); k_whole); intro l' vs' c' ns' h' tk' F' N' l1' hI' hlen' heq'; (try k_lt l1'); (try dsimp only); (try k_fold)))

local macro_rules | `(tactic| walk_at "call ref") => `(tactic| (k_here; (with_reducible show wpAny _ _ (call (Value.ref 84) _) _ _ _); k_dflt (refine' value_says ?ka ?kb ?kc ?k1 ?k2 ?k3 ?k4 ?k5 ?kK ?kd ?ku ?_; (case k1 => k_asm); (case k2 => k_asm); (case k3 => k_asm); (case k4 => k_asm); (case k5 => k_asm); (case ka => k_mem); (case kb => l_ints); (case kc => first | assumption | (simp only [List.length_map, rangeKs_length]; rfl)); (case kK => first | exact rfl | assumption); (case kd => ktr_room); (case ku => ktr_units); k_whole); intro t' h' tk' F' N'; (try dsimp only); (try k_fold)))

set_option maxRecDepth 100000 in
set_option maxHeartbeats 8000000 in
theorem shifted_says {x : Int} {tx : Tok} (B : Below A₀ base outer h₀) (F : Fr h₀ L s.heap m) (X : (hd.heap_39 w.params).In h₀) (N : News h₀ L s.heap news) (T : Top hd.view_39 (looseW hd.view_39 []) mean mg mb h₀) (hk : cs.kind = .function) (hdp : dp + 2 < recursionLimit) (hun : un + 20 < cLine)
    (hret : ∀ t h' tk', Fr h₀ L h' m → News h₀ L h' news → Q (.int (shiftV x) t) { s with heap := h', toks := tk' }) :
    wpAny (model PySem.Challenge.rw_bq5004_01.row.prog w) (ktrTop dp un gd cn cs L a ccd cl outer) (call (.ref 94) [.int x tx]) Q E s := by
  w_top off
  k_with_none
  revert X; k_fill; intro X
  have hI0 : IntsAre [] [] := IntsAre.nil
  refine wpAny_call ?_
  k_dflt (refine' code_defC ?k1 ?k2 ?k3 ?k4 ?k5 ?kA ?kF ?kK ?k6 ?k7 ?k8 ?k9 ?kB ?kD ?_ ?c2 ?c3 ?c4; (case kA => exact rfl); (case kF => exact rfl); (case kK => assumption); (case k1 => k_asm); (case k2 => k_asm); (case k3 => k_asm); (case k4 => k_asm); (case k5 => k_asm); (case k6 => k_is); (case k7 => k_is); (case k8 => ktr_room); (case k9 => exact BindsTo.of_eq rfl); (case kB => exact rfl); (case kD => decide +kernel); (case c2 => exact rfl); (case c3 => exact rfl); (case c4 => exact rfl); k_whole; intro g' L' h' tk' cells' FG' F' N' Y' B' X' T' l1; (try k_lt l1); k_cells Y'; (try simp only [List.cons_append, List.nil_append] at N'); (try dsimp only); (try k_lift B'); (try k_fold))
  have kMk : KstMark := kstMark
  have lz1 := allLt_mono (allLt_of l1) (Nat.le_succ L')
  k_steps
  · (with_reducible rename _ = bitsF _ _ => heq)
    refine cb_retI (Q := Q) (s := s) hret ?_ (by k_asm) (by first | k_asm | exact cb_drop (by k_asm) (by kcj_all))
    unfold shiftV
    rw [heq]

local macro_rules | `(tactic| walk_at "call ref") => `(tactic| (k_here; (with_reducible show wpAny _ _ (call (Value.ref 94) _) _ _ _); k_dflt (refine' shifted_says ?k1 ?k2 ?k3 ?k4 ?k5 ?kK ?kd ?ku ?_; (case k1 => k_asm); (case k2 => k_asm); (case k3 => k_asm); (case k4 => k_asm); (case k5 => k_asm); (case kK => first | exact rfl | assumption); (case kd => ktr_room); (case ku => ktr_units); k_whole); intro t' h' tk' F' N'; (try dsimp only); (try k_fold)))

set_option maxRecDepth 100000 in
set_option maxHeartbeats 8000000 in
theorem mixed_says {x : Int} {tx : Tok} (B : Below A₀ base outer h₀) (F : Fr h₀ L s.heap m) (X : (hd.heap_39 w.params).In h₀) (N : News h₀ L s.heap news) (T : Top hd.view_39 (looseW hd.view_39 []) mean mg mb h₀) (hk : cs.kind = .function) (hdp : dp + 3 < recursionLimit) (hun : un + 40 < cLine)
    (hret : ∀ t h' tk', Fr h₀ L h' m → News h₀ L h' news → Q (.int (mixV x) t) { s with heap := h', toks := tk' }) :
    wpAny (model PySem.Challenge.rw_bq5004_01.row.prog w) (ktrTop dp un gd cn cs L a ccd cl outer) (call (.ref 101) [.int x tx]) Q E s := by
  w_top off
  k_with_none
  revert X; k_fill; intro X
  have hI0 : IntsAre [] [] := IntsAre.nil
  refine wpAny_call ?_
  k_dflt cell_enter
  k_steps
  · exact cb_retI (Q := Q) (s := s) hret rfl (by k_asm) (by first | k_asm | exact cb_drop (by k_asm) (by kcj_all))
end
end

section
section
variable {w : World} {mean : ExcName → Option Value} {mg mb : Str → Option Value} {dp un : Nat} {gd : Option (List Code)} {cn : Str} {cs : Scope} {a : Addr} {ccd : Value} {cl : List (Str × Addr)} {outer : List Env} {A₀ : Around} {base h₀ : Heap} {L : Addr} {m : Str → Option Value} {news : List (Addr × Obj)} {s : Shared} {Q E : Value → Shared → Prop}

local macro_rules | `(tactic| walk_at "never0") => `(tactic| fail)
local macro_rules | `(tactic| walk_at "never1") => `(tactic| fail)
local macro_rules | `(tactic| walk_at "never2") => `(tactic| fail)
local macro_rules | `(tactic| walk_at "storeName") => `(tactic| dsimp only)
local macro_rules | `(tactic| walk_at "pyIter ref") => `(tactic| k_extra "pyIter ref")

theorem back8 {prog : Program} {A : Around} {value slice : Expr} {l : Addr} {vs : List Value} {os : List Int} {c : Nat} {u : Tok} (N : News h₀ L s.heap news) (hm : (l, listOf vs.toArray c) ∈ news) (hi : IntsAre vs os) (hl : os.length = 8) (h : ∀ t, Q (.int (os.getD 7 0) t) s)
    (hs : subscripted slice false (.ref l) (.int (-1) u) = operate [.ref l, .int (-1) u] (getItem (.ref l) (.int (-1) u)) := by with_unfolding_all rfl) (hg : ∀ r, letTemporaryGo value (.ref l) r = pure () := by intro _; with_unfolding_all rfl) :
    wpAny (model prog w) A (subscriptTail value slice (.ref l) (.int (-1) u)) Q E s := by
  have hv : vs.length = 8 := by rw [hi.length, hl]
  obtain ⟨t, ht⟩ := hi.get 7 (os.getD 7 0) (by simp [List.getD_eq_getElem?_getD, List.getElem?_eq_getElem, hl])
  exact kim_back N hm rfl rfl (by decide) (by rw [hv]; decide) (by decide) (by rw [hv]; exact ht) (h t) hs hg
local macro_rules | `(tactic| walk_at "subscriptTail") => `(tactic| (k_here; (with_reducible show wpAny _ _ (subscriptTail _ _ (Value.ref _) (Value.int _ _)) _ _ _); k_dflt (refine' back8 ?F ?m ?i ?l ?_; (case F => k_asm); (case m => first | kcf_m | k_mem); (case i => first | assumption | l_ints); (case l => assumption); k_whole); intro t9'; (try dsimp only); (try k_fold)))

theorem len8 {prog : Program} {A : Around} {l : Addr} {vs : List Value} {os : List Int} {c : Nat} (N : News h₀ L s.heap news) (hm : (l, listOf vs.toArray c) ∈ news) (hi : IntsAre vs os) (hl : os.length = 8) (h : Q (.int 8 (s.toks + 1)) { s with toks := s.toks + 1 + 1 }) :
    wpAny (model prog w) A (call (.builtin "len") [.ref l]) Q E s := kst_len N hm (by rw [hi.length, hl]) (by decide) h
local macro_rules | `(tactic| walk_at "call builtin:len") => `(tactic| (k_here; (with_reducible show wpAny _ _ (call (Value.builtin "len") [Value.ref _]) _ _ _); k_dflt (refine' len8 ?F ?m ?i ?l ?_; (case F => k_asm); (case m => first | kcf_m | k_mem); (case i => first | assumption | l_ints); (case l => assumption); k_whole)))

theorem horn_start : 0 = hornV [] := rfl
theorem horn_state {pre : List Int} {k total : Int} (h : total = hornV pre) : total * 256 + k = hornV (pre ++ [k]) := by
  subst h
  simp [hornV]

set_option maxRecDepth 100000 in
set_option maxHeartbeats 8000000 in
theorem signed_says {l : Addr} {vs : List Value} {os : List Int} {c : Nat} (hm : (l, listOf vs.toArray c) ∈ news) (hi : IntsAre vs os) (hl : os.length = 8) (B : Below A₀ base outer h₀) (F : Fr h₀ L s.heap m) (X : (hd.heap_39 w.params).In h₀) (N : News h₀ L s.heap news) (T : Top hd.view_39 (looseW hd.view_39 []) mean mg mb h₀) (hk : cs.kind = .function) (hdp : dp + 1 < recursionLimit) (hun : un + 8 < cLine)
    (hret : ∀ t h' tk', Fr h₀ L h' m → News h₀ L h' news → Q (.int (signV os) t) { s with heap := h', toks := tk' }) :
    wpAny (model PySem.Challenge.rw_bq5004_01.row.prog w) (ktrTop dp un gd cn cs L a ccd cl outer) (call (.ref 108) [.ref l]) Q E s := by
  w_top off
  k_with_none
  revert X; k_fill; intro X
  k_with "pyIter ref" => k_state (fun pre total => total = hornV pre) "total"
  k_with "state" => first | exact horn_start | exact horn_state (by with_reducible assumption)
  have hI0 : IntsAre [] [] := IntsAre.nil
  refine wpAny_call ?_
  k_dflt cell_enter
  k_steps
  · (with_reducible rename _ = hornV _ => hv)
    refine cb_retI (Q := Q) (s := s) hret ?_ (by k_asm) (by first | k_asm | exact cb_drop (by k_asm) (by kcj_all))
    unfold signV
    rw [if_pos (by first | assumption | omega), hv]
  · (with_reducible rename _ = hornV _ => hv)
    refine cb_retI (Q := Q) (s := s) hret ?_ (by k_asm) (by first | k_asm | exact cb_drop (by k_asm) (by kcj_all))
    unfold signV
    rw [if_neg (by first | assumption | omega), hv]
end
end

section
section
variable {w : World} {mean : ExcName → Option Value} {mg mb : Str → Option Value} {dp un : Nat} {gd : Option (List Code)} {cn : Str} {cs : Scope} {a : Addr} {ccd : Value} {cl : List (Str × Addr)} {outer : List Env} {A₀ : Around} {base h₀ : Heap} {L : Addr} {m : Str → Option Value} {news : List (Addr × Obj)} {s : Shared} {Q E : Value → Shared → Prop}

theorem qq_len {n : Int} (h0 : 0 ≤ n) (h1 : n ≤ 3) (hl : 0 ≤ n → ((Txt.mul (Str.ofString "qq") n).length : Int) = 2 * n) : (Str.ofString "<").length + (Txt.mul (Str.ofString "qq") n).length ≤ sizeLine := by
  rw [PySem.sizeLine_eq, show (Str.ofString "<").length = 1 from by decide +kernel]
  have := hl h0
  omega
local macro_rules | `(tactic| walk_at "never0") => `(tactic| fail)
local macro_rules | `(tactic| walk_at "never1") => `(tactic| fail)
local macro_rules | `(tactic| walk_at "never2") => `(tactic| fail)
local macro_rules | `(tactic| walk_at "storeName") => `(tactic| dsimp only)
local macro_rules | `(tactic| walk_at "binaryOp Add str str") => `(tactic| (k_here; refine add_str (fun t9' tk9' => ?_) (qq_len (by omega) (by omega) (by assumption)); (try dsimp only); (try k_fold)))
local macro_rules | `(tactic| walk_at "call type:tuple") => `(tactic| (k_here; (with_reducible show wpAny _ _ (call (Value.type "tuple") []) _ _ _); k_dflt (refine' tuple_nil_N ?k1 ?k2 ?_; (case k1 => k_asm); (case k2 => k_asm); k_whole); intro T' h' F' N' l1'; (try k_lt l1'); (try dsimp only); (try k_fold)))
local macro_rules | `(tactic| walk_at "call builtin:_struct.unpack") => `(tactic| (k_here; k_dflt (refine' unpackQ_K ?ka ?kb ?kc ?k1 ?k2 ?_; (case k1 => k_asm); (case k2 => k_asm); (case ka => assumption); (case kb => assumption); (case kc => assumption); k_whole); intro T' vs' h' tk' F' N' l1' hI'; (try k_lt l1'); (try dsimp only); (try k_fold)))
local macro_rules | `(tactic| walk_at "call builtin:_struct.unpack") => `(tactic| (k_here; k_dflt (refine' unpackB_K ?ka ?kb ?k1 ?k2 ?_; (case k1 => k_asm); (case k2 => k_asm); (case ka => assumption); (case kb => assumption); k_whole); intro T' vs' h' tk' F' N' l1' hI'; (try k_lt l1'); (try dsimp only); (try k_fold)))

set_option maxRecDepth 100000 in
set_option maxHeartbeats 8000000 in
theorem body_says {bs : Array UInt8} {ks : List Int} {tb : Tok} (hks : KBw.bInts bs = ks) (hl : ks.length ≤ 63) (B : Below A₀ base outer h₀) (F : Fr h₀ L s.heap m) (X : (hd.heap_39 w.params).In h₀) (N : News h₀ L s.heap news) (T : Top hd.view_39 (looseW hd.view_39 []) mean mg mb h₀) (hk : cs.kind = .function) (hdp : dp + 1 < recursionLimit) (hun : un + 8 < cLine)
    (hret : ∀ D T2 T1 vs2 vs1 tk0 h' tk', Fr h₀ L h' m → News h₀ L h' ((D, { cls := .type "tuple", data := .seq #[.ref T1, .ref T2, .int ks.length tk0] }) :: (T2, { cls := .type "tuple", data := .seq vs2.toArray }) :: (T1, { cls := .type "tuple", data := .seq vs1.toArray }) :: news) → @LT.lt Nat _ T1 T2 → @LT.lt Nat _ T2 D → (∀ p ∈ news, p.1 < T1) → IntsAre vs1 (headI ks) → IntsAre vs2 (tailI ks) → Q (.ref D) { s with heap := h', toks := tk' }) :
    wpAny (model PySem.Challenge.rw_bq5004_01.row.prog w) (ktrTop dp un gd cn cs L a ccd cl outer) (call (.ref 49) [.bytes bs tb]) Q E s := by
  w_top off
  k_with_none
  revert X; k_fill; intro X
  have hI0 : IntsAre [] [] := IntsAre.nil
  have hq0 : 0 ≤ (ks.length : Int).fdiv 16 ∧ (ks.length : Int).fdiv 16 ≤ 3 := by
    rw [Int.fdiv_eq_ediv_of_nonneg _ (by decide)]
    omega
  obtain ⟨hq1, hq2⟩ := hq0
  refine wpAny_call ?_
  k_dflt cell_enter
  k_steps
  · exact hret _ _ _ _ _ _ _ _ (by k_asm) (by k_asm) (by omega) (by omega) (by assumption) (by with_reducible assumption) (by with_reducible assumption)
  · refine hret _ _ _ _ [] _ _ _ (by k_asm) (by k_asm) (by omega) (by omega) (by assumption) ?_ (by with_reducible assumption)
    have e : headI ks = [] := by
      unfold headI
      have : 2 * (ks.length / 16) = 0 := by
        have := fdiv16 ks.length
        omega
      rw [this]; rfl
    rw [e]
    exact .nil
end
end

section
open Builtin.Int (intBits)

def NbOk (nb : List Int) : Prop := nb.length = 6 ∧ ∀ x ∈ nb, intBits x ≤ 1048576
theorem NbOk.at {nb : List Int} (h : NbOk nb) (i : Nat) : intBits (nb.getD i 0) ≤ 2000000 := by
  rw [List.getD_eq_getElem?_getD]
  cases e : nb[i]? with
  | none => decide
  | some v => exact Nat.le_trans (h.2 v (List.mem_of_getElem? e)) (by omega)
theorem nb_start {ns : List Int} (hL : (PyData.list (ns.map PyData.int)).layable0 = true) : NbOk ((rangeKs 0 (6 - 0 : Int).toNat).map fun k => if k < (ns.length : Int) then ns.getD k.toNat 0 else (-3) ^ (k * 7 + 1).toNat) := by
  refine ⟨by rw [List.length_map, rangeKs_length]; rfl, fun x hx => ?_⟩
  obtain ⟨k, hk, rfl⟩ := List.mem_map.mp hx
  have hb := mem_rangeKs hk
  by_cases h : k < (ns.length : Int)
  · rw [if_pos h]
    refine intBits_le_of_item (ns := ns) ?_ hL
    have hlt : k.toNat < ns.length := by omega
    rw [List.getD_eq_getElem?_getD, List.getElem?_eq_getElem hlt]
    exact List.getElem_mem hlt
  · rw [if_neg h]
    have hn : (k * 7 + 1).toNat ≤ 36 := by
      have := hb.2
      simp at this
      omega
    exact Nat.le_trans (intBits_pow_le (m := 2) (intBits_le_iff.mpr (by decide)) _) (by omega)
theorem nb_start' {ns : List Int} (hL : (PyData.list (ns.map PyData.int)).layable0 = true) : ((rangeKs 0 (6 - 0 : Int).toNat).map fun k => if k < (ns.length : Int) then ns.getD k.toNat 0 else (-3) ^ (k * 7 + 1).toNat).length = 6 ∧ NbOk ((rangeKs 0 (6 - 0 : Int).toNat).map fun k => if k < (ns.length : Int) then ns.getD k.toNat 0 else (-3) ^ (k * 7 + 1).toNat) := ⟨(nb_start hL).1, nb_start hL⟩
theorem near_bits {l : List Int} {i : Nat} {y : Int} (h : l.all (fun k => decide (-20000000000000000000 ≤ k) && decide (k ≤ 20000000000000000000)) = true) : intBits (l.getD i 0 + y.fmod 3 - 1) ≤ 2000000 := by
  have hi := kmn_any (l := l) (i := i) (d := 0) (lo := -20000000000000000000) (hi := 20000000000000000000) (by rw [List.all_cons, h]; decide)
  have h1 := fmod_lo y (n := 3) (by decide)
  have h2 := fmod_hi y (n := 3) (by decide)
  have h3 : intBits (l.getD i 0 + y.fmod 3 - 1) ≤ 70 := intBits_le_iff.mpr (by omega)
  exact Nat.le_trans h3 (by omega)

theorem bodyTo_len (os : List Int) : ∀ n, (bodyTo os n).length = n
  | 0 => rfl
  | n + 1 => by rw [bodyTo, List.length_append, bodyTo_len os n]; rfl
theorem body_start {os : List Int} : ([] : List Int) = bodyTo os ([] : List Int).length ∧ ([] : List Int).length = ([] : List Int).length := ⟨rfl, rfl⟩
theorem body_state {os pre body : List Int} {k : Int} (h : body = bodyTo os pre.length ∧ body.length = pre.length) : body ++ [signV ((os.drop (8 * pre.length)).take 8)] = bodyTo os (pre ++ [k]).length ∧ (body ++ [signV ((os.drop (8 * pre.length)).take 8)]).length = (pre ++ [k]).length := by
  obtain ⟨h1, h2⟩ := h
  rw [List.length_append]
  refine ⟨by subst h1; rfl, by simp [h2]⟩
section
variable {prog : Program} {w : World} {mean : ExcName → Option Value} {mg mb : Str → Option Value} {dp un : Nat} {gd : Option (List Code)} {cn : Str} {cs : Scope} {a : Addr} {ccd : Value} {cl : List (Str × Addr)} {outer : List Env} {A A₀ : Around} {base h₀ : Heap} {L : Addr} {m : Str → Option Value} {news : List (Addr × Obj)} {s : Shared} {Q E : Value → Shared → Prop}
theorem turned_says' {x r : Int} {tx tr : Tok} (h1 : 1 ≤ r) (h2 : r ≤ 63) (B : Below A₀ base outer h₀) (F : Fr h₀ L s.heap m) (X : (hd.heap_39 w.params).In h₀) (N : News h₀ L s.heap news) (T : Top hd.view_39 (looseW hd.view_39 []) mean mg mb h₀) (hk : cs.kind = .function) (hdp : dp + 2 < recursionLimit) (hun : un + 20 < cLine)
    (hret : ∀ t h' tk', Fr h₀ L h' m → News h₀ L h' news → Q (.int ((rotV x r).fmod 18446744073709551616) t) { s with heap := h', toks := tk' }) :
    wpAny (model PySem.Challenge.rw_bq5004_01.row.prog w) (ktrTop dp un gd cn cs L a ccd cl outer) (call (.ref 89) [.int x tx, .int r tr]) Q E s :=
  turned_says h1 h2 B F X N T hk hdp hun (by rw [turn_eq h1 h2]; exact hret)
theorem mixed_says' {x : Int} {tx : Tok} (B : Below A₀ base outer h₀) (F : Fr h₀ L s.heap m) (X : (hd.heap_39 w.params).In h₀) (N : News h₀ L s.heap news) (T : Top hd.view_39 (looseW hd.view_39 []) mean mg mb h₀) (hk : cs.kind = .function) (hdp : dp + 3 < recursionLimit) (hun : un + 40 < cLine)
    (hret : ∀ t h' tk', Fr h₀ L h' m → News h₀ L h' news → Q (.int ((fmixV x).fmod 18446744073709551616) t) { s with heap := h', toks := tk' }) :
    wpAny (model PySem.Challenge.rw_bq5004_01.row.prog w) (ktrTop dp un gd cn cs L a ccd cl outer) (call (.ref 101) [.int x tx]) Q E s :=
  mixed_says B F X N T hk hdp hun (by rw [mix_eq x]; exact hret)
def dueV (x : Int) : Int := if 9223372036854775808 ≤ x.fmod 18446744073709551616 then x.fmod 18446744073709551616 - 18446744073709551616 else x.fmod 18446744073709551616
theorem fm64 (x : Int) : x.fmod 18446744073709551616 = x % 18446744073709551616 := Int.fmod_eq_emod_of_nonneg _ (by decide)
theorem due_eq (x : Int) : trunc64 x = dueV x := by
  unfold trunc64 dueV
  rw [fm64, fm64]
  split <;> split <;> omega
theorem due_pos {x : Int} (h : 9223372036854775808 ≤ x.fmod 18446744073709551616) : dueV x = x.fmod 18446744073709551616 - 18446744073709551616 := if_pos h
theorem due_neg {x : Int} (h : ¬ 9223372036854775808 ≤ x.fmod 18446744073709551616) : dueV x = x.fmod 18446744073709551616 := if_neg h
theorem due_in {x : Int} (h1 : -9223372036854775808 ≤ x) (h2 : x < 9223372036854775808) : dueV x = x := by
  unfold dueV
  rw [fm64]
  split <;> omega
/-- two ways meet: an int of which P holds; nothing stored -/
def JoinI (P : Int → Prop) (s : Shared) (v : Value) (s' : Shared) : Prop := ∃ n t tk', v = .int n t ∧ P n ∧ s' = { s with toks := tk' }
def JoinF (s : Shared) (b : Bool) (s' : Shared) : Prop := ∃ tk', b = false ∧ s' = { s with toks := tk' }
theorem joinI {M : Model} {m : Sem Value} (P : Int → Prop) (h1 : wpAny M A m (JoinI P s) E s) (h2 : ∀ n t tk', P n → Q (.int n t) { s with toks := tk' }) : wpAny M A m Q E s :=
  wpAny_mono h1 (fun v s' h => by obtain ⟨n, t, tk', rfl, hP, rfl⟩ := h; exact h2 n t tk' hP) fun _ _ e => e
theorem joinNum {M : Model} {m : Sem Value} (h1 : wpAny M A m (JoinI (fun n => intBits n ≤ 2000000) s) E s) (h2 : ∀ n t tk', intBits n ≤ 2000000 → Q (.int n t) { s with toks := tk' }) : wpAny M A m Q E s := joinI _ h1 h2
theorem joinDue {M : Model} {m : Sem Value} {x : Int} (hx9 : intBits x ≤ 2000000) (h1 : wpAny M A m (JoinI (fun n => n = dueV x) s) E s) (h2 : ∀ t tk', Q (.int (dueV x) t) { s with toks := tk' }) : wpAny M A m Q E s := joinI _ h1 fun n t tk' e => by rw [e]; exact h2 t tk'
theorem joinF {M : Model} {m : Sem Bool} {Q : Bool → Shared → Prop} (h1 : wpAny M A m (JoinF s) E s) (h2 : ∀ tk', Q false { s with toks := tk' }) : wpAny M A m Q E s :=
  wpAny_mono h1 (fun v s' h => by obtain ⟨tk', rfl, rfl⟩ := h; exact h2 tk') fun _ _ e => e
theorem JoinI.near {l : List Int} {i : Nat} {y : Int} {t : Tok} {s s' : Shared} {tk : Nat} (h : l.all (fun k => decide (-20000000000000000000 ≤ k) && decide (k ≤ 20000000000000000000)) = true) (e : s' = { s with toks := tk }) : JoinI (fun n => intBits n ≤ 2000000) s (.int (l.getD i 0 + y.fmod 3 - 1) t) s' := ⟨_, _, _, rfl, near_bits h, e⟩
theorem JoinI.nb {nb : List Int} {i : Nat} {t : Tok} {s s' : Shared} {tk : Nat} (h : NbOk nb) (e : s' = { s with toks := tk }) : JoinI (fun n => intBits n ≤ 2000000) s (.int (nb.getD i 0) t) s' := ⟨_, _, _, rfl, h.at i, e⟩
theorem JoinI.pos {x : Int} {t : Tok} {s s' : Shared} {tk : Nat} (h : 9223372036854775808 ≤ x.fmod 18446744073709551616) (e : s' = { s with toks := tk }) : JoinI (fun n => n = dueV x) s (.int (x.fmod 18446744073709551616 - 18446744073709551616) t) s' := ⟨_, _, _, rfl, (due_pos h).symm, e⟩
theorem JoinI.neg {x : Int} {t : Tok} {s s' : Shared} {tk : Nat} (h : ¬ 9223372036854775808 ≤ x.fmod 18446744073709551616) (e : s' = { s with toks := tk }) : JoinI (fun n => n = dueV x) s (.int (x.fmod 18446744073709551616) t) s' := ⟨_, _, _, rfl, (due_neg h).symm, e⟩
theorem JoinF.no {s s' : Shared} {tk : Nat} (e : s' = { s with toks := tk }) : JoinF s false s' := ⟨_, rfl, e⟩
theorem pow_lit {a n r : Int} {t u : Tok} (hn : 0 ≤ n) (hn2 : n ≤ 1000000) (ha : a.natAbs < 2 ^ 64) (hr : a ^ n.toNat = r) (h : Q (.int r s.toks) { s with toks := s.toks + 1 }) : wpAny (model prog w) A (binaryOp .Pow (.int a t) (.int n u)) Q E s :=
  pow_int_small hn hn2 ha (by rw [hr]; exact h)
theorem pow63 {t u : Tok} (h : Q (.int 9223372036854775808 s.toks) { s with toks := s.toks + 1 }) : wpAny (model prog w) A (binaryOp .Pow (.int 2 t) (.int 63 u)) Q E s := pow_lit (by decide) (by decide) (by decide) (by decide +kernel) h
theorem pow64 {t u : Tok} (h : Q (.int 18446744073709551616 s.toks) { s with toks := s.toks + 1 }) : wpAny (model prog w) A (binaryOp .Pow (.int 2 t) (.int 64 u)) Q E s := pow_lit (by decide) (by decide) (by decide) (by decide +kernel) h
theorem truncate_says' {x : Int} {tx : Tok} (B : Below A₀ base outer h₀) (F : Fr h₀ L s.heap m) (X : (hd.heap_39 w.params).In h₀) (N : News h₀ L s.heap news) (T : Top hd.view_39 (looseW hd.view_39 []) mean mg mb h₀) (hk : cs.kind = .function) (hdp : dp + 1 < recursionLimit) (hun : un + 8 < cLine)
    (hret : ∀ t h' tk', Fr h₀ L h' m → News h₀ L h' news → Q (.int (dueV x) t) { s with heap := h', toks := tk' }) :
    wpAny (model PySem.Challenge.rw_bq5004_01.row.prog w) (ktrTop dp un gd cn cs L a ccd cl outer) (call (.ref 70) [.int x tx]) Q E s :=
  truncate_says B F X N T hk hdp hun (by rw [due_eq x]; exact hret)
theorem signed_at {l : Addr} {vs : List Value} {sl os pre : List Int} {c : Nat} {k : Int} (hk9 : k = 0 + (pre.length : Int)) (hm : (l, listOf vs.toArray c) ∈ news) (hi : IntsAre vs sl) (hsl : sl = (os.drop (8 * pre.length)).take 8) (hfit : 8 * pre.length + 8 ≤ os.length) (B : Below A₀ base outer h₀) (F : Fr h₀ L s.heap m) (X : (hd.heap_39 w.params).In h₀) (N : News h₀ L s.heap news) (T : Top hd.view_39 (looseW hd.view_39 []) mean mg mb h₀) (hk : cs.kind = .function) (hdp : dp + 1 < recursionLimit) (hun : un + 8 < cLine)
    (hret : ∀ t h' tk', Fr h₀ L h' m → News h₀ L h' news → Q (.int (signV ((os.drop (8 * pre.length)).take 8)) t) { s with heap := h', toks := tk' }) :
    wpAny (model PySem.Challenge.rw_bq5004_01.row.prog w) (ktrTop dp un gd cn cs L a ccd cl outer) (call (.ref 108) [.ref l]) Q E s := by
  refine signed_says hm hi ?_ B F X N T hk hdp hun ?_
  · rw [hsl, List.length_take, List.length_drop]; omega
  · rw [hsl]; exact hret
theorem slice8 {os pre : List Int} {k : Int} (hk : k = 0 + (pre.length : Int)) (h : 8 * pre.length + 8 ≤ os.length) : List.take (min (8 * k + 8).toNat os.length - (8 * k).toNat) (List.drop (8 * k).toNat os) = List.take 8 (List.drop (8 * pre.length) os) := by
  have e1 : (8 * k).toNat = 8 * pre.length := by omega
  have e2 : min (8 * k + 8).toNat os.length - (8 * k).toNat = 8 := by omega
  rw [e2, e1]
theorem body_at {os bl : List Int} {N d : Nat} {tb : Tok} {ys : List Value} (hin : KBa.In os) (hl : os.length ≤ 63) (hbl : bl = bodyTo os N) (hN : N = 2 * (os.length / 16)) (hy : IntsAre ys (List.map (fun k' => if 128 ≤ k' then k' - 256 else k') (List.drop d os))) (hd9 : d = 16 * (os.length / 16)) (B : Below A₀ base outer h₀) (F : Fr h₀ L s.heap m) (X : (hd.heap_39 w.params).In h₀) (N9 : News h₀ L s.heap news) (T : Top hd.view_39 (looseW hd.view_39 []) mean mg mb h₀) (hk : cs.kind = .function) (hdp : dp + 1 < recursionLimit) (hun : un + 8 < cLine)
    (hret : ∀ D T2 T1 vs2 vs1 tk0 h' tk', Fr h₀ L h' m → News h₀ L h' ((D, { cls := .type "tuple", data := .seq #[.ref T1, .ref T2, .int (os.length : Int) tk0] }) :: (T2, { cls := .type "tuple", data := .seq vs2.toArray }) :: (T1, { cls := .type "tuple", data := .seq vs1.toArray }) :: news) → @LT.lt Nat _ T1 T2 → @LT.lt Nat _ T2 D → (∀ p ∈ news, p.1 < T1) → IntsAre vs1 bl → IntsAre vs2 (List.map (fun k' => if 128 ≤ k' then k' - 256 else k') (List.drop d os)) → Q (.ref D) { s with heap := h', toks := tk' }) :
    wpAny (model PySem.Challenge.rw_bq5004_01.row.prog w) (ktrTop dp un gd cn cs L a ccd cl outer) (call (.ref 49) [.bytes (byteArr os) tb]) Q E s := by
  refine body_says (ks := os) (KBa.ints_make hin) hl B F X N9 T hk hdp hun ?_
  have e1 : headI os = bl := by rw [hbl, hN]; exact head_eq os hin
  have e2 : tailI os = List.map (fun k' => if 128 ≤ k' then k' - 256 else k') (List.drop d os) := by rw [hd9]; exact tail_eq os hin
  rw [e1, e2]
  exact hret
theorem fdiv16_at {n : Nat} {t u : Tok} (hn : n ≤ 63) (h : Q (.int ((n / 16 : Nat) : Int) s.toks) { s with toks := s.toks + 1 }) : wpAny (model prog w) A (binaryOp .FloorDiv (.int (n : Int) t) (.int 16 u)) Q E s := floordiv_int (by decide) (by rw [fdiv16]; exact h) (.inl (PyProof.noPylong_small (by omega)))
theorem fmod16_at {n : Nat} {t u : Tok} (h : Q (.int ((n % 16 : Nat) : Int) s.toks) { s with toks := s.toks + 1 }) : wpAny (model prog w) A (binaryOp .Mod (.int (n : Int) t) (.int 16 u)) Q E s := mod_int (by decide) (by rw [fmod16]; exact h)
theorem len_at {l : Addr} {vs : List Value} {os : List Int} {c : Nat} (N : News h₀ L s.heap news) (hm : (l, listOf vs.toArray c) ∈ news) (hi : IntsAre vs os) (hfit : (os.length : Int) < 2 ^ 63) (h : Q (.int (os.length : Int) (s.toks + 1)) { s with toks := s.toks + 1 + 1 }) :
    wpAny (model prog w) A (call (.builtin "len") [.ref l]) Q E s := kst_len N hm hi.length hfit h
theorem eq_true {x y : Int} {t u : Tok} (e : x = y) (h : Q (.bool true) s) : wpAny (model prog w) A (compareOp .Eq (.int x t) (.int y u)) Q E s := eq_int (by subst e; rw [show (x == x) = true by simp]; exact h)
theorem isi_tup {a : Addr} {o : Obj} (N : News h₀ L s.heap news) (hm : (a, o) ∈ news) (hc : o.cls = .type "tuple") (h : Q (.bool true) s) : wpAny (model prog w) A (call (.builtin "isinstance") [.ref a, .type "tuple"]) Q E s :=
  call_isinstance (isinstance_true (Tx := "tuple") F.isi_meta_tuple F.sub_tuple_tuple) ⟨⟨_, (N _ hm).1, hc⟩, h⟩
theorem ne_eq {x y : Int} {t u : Tok} (e : x = y) (h : Q (.bool false) s) : wpAny (model prog w) A (compareOp .NotEq (.int x t) (.int y u)) Q E s := ne_int (by subst e; rw [show (x != x) = false by simp]; exact h)
theorem ne_same {x : Int} {t u : Tok} (h : Q (.bool false) s) : wpAny (model prog w) A (compareOp .NotEq (.int x t) (.int x u)) Q E s := ne_int (by rw [show (x != x) = false by simp]; exact h)
end
end

section
local macro_rules | `(tactic| walk_at "storeName") => `(tactic| dsimp only)
local macro_rules | `(tactic| walk_at "eval IfExp") => `(tactic| (k_here; (with_reducible show wpAny _ _ (eval (Expr.IfExp (Expr.Compare _ [CmpOp.Eq] _ _) _ _ _) _) _ _ _); (fail_if_success (with_reducible show wpAny _ _ _ (JoinI _ _) _ _)); refine joinNum ?_ ?_; (rotate_left; intro n9' t9' tk9' hn9'; (try dsimp only); (try k_fold); rotate_left)))
local macro_rules | `(tactic| walk_at "eval IfExp") => `(tactic| (k_here; (with_reducible show wpAny _ _ (eval (Expr.IfExp (Expr.Compare _ [CmpOp.GtE] _ _) _ _ _) _) _ _ _); (fail_if_success (with_reducible show wpAny _ _ _ (JoinI _ _) _ _)); refine joinDue (by with_reducible assumption) ?_ ?_; (rotate_left; intro t9' tk9'; (try dsimp only); (try k_fold); rotate_left)))
local macro_rules | `(tactic| walk_at "isTrue BoolOp") => `(tactic| (k_here; (with_reducible show wpAny _ _ (PySem.isTrue (Expr.BoolOp BoolOp.And _ _) _ _) _ _ _); (fail_if_success (with_reducible show wpAny _ _ _ (JoinF _) _ _)); refine joinF ?_ ?_; (rotate_left; intro tk9'; (try dsimp only); (try k_fold); rotate_left)))
local macro_rules | `(tactic| walk_at "JoinI") => `(tactic| first | exact JoinI.nb (by with_reducible assumption) rfl | exact JoinI.near (by decide) rfl | exact JoinI.pos (by first | with_reducible assumption | omega) rfl | exact JoinI.neg (by first | with_reducible assumption | omega) rfl)
local macro_rules | `(tactic| walk_at "JoinF") => `(tactic| exact JoinF.no rfl)
local macro_rules | `(tactic| walk_at "spliced") => `(tactic| dsimp only)
local macro_rules | `(tactic| walk_at "eval BinOp") => `(tactic| dsimp only)
local macro_rules | `(tactic| walk_at "pyIter ref") => `(tactic| k_extra "pyIter ref")
local macro_rules | `(tactic| walk_at "compareOp NotEq int int") => `(tactic| (k_here; (with_reducible first | refine ne_same ?_ | refine ne_eq (due_pos (by first | assumption | omega)) ?_ | refine ne_eq (due_neg (by first | assumption | omega)) ?_ | refine ne_eq (due_in (by first | assumption | omega) (by first | assumption | omega)) ?_)))
local macro_rules | `(tactic| walk_at "binaryOp Pow int int") => `(tactic| (k_here; with_reducible first | refine pow63 ?_ | refine pow64 ?_))
-- rotl64
local macro_rules | `(tactic| walk_at "call ref") => `(tactic| (k_here; (with_reducible show wpAny _ _ (call (Value.ref 56) _) _ _ _); k_dflt (refine' rotl_says ?ka ?kb ?kc ?k1 ?k2 ?k3 ?k4 ?k5 ?kK ?kd ?ku ?_; (case k1 => k_asm); (case k2 => k_asm); (case k3 => k_asm); (case k4 => k_asm); (case k5 => k_asm); (case kK => first | exact rfl | assumption); (case kd => ktr_room); (case ku => ktr_units); (case ka => with_reducible assumption); (case kb => (k_fmods; omega)); (case kc => (k_fmods; omega)); k_whole); intro t' h' tk' F' N'; (try dsimp only); (try k_fold)))
-- the turned
local macro_rules | `(tactic| walk_at "call ref") => `(tactic| (k_here; (with_reducible show wpAny _ _ (call (Value.ref 89) _) _ _ _); k_dflt (refine' turned_says' ?kb ?kc ?k1 ?k2 ?k3 ?k4 ?k5 ?kK ?kd ?ku ?_; (case k1 => k_asm); (case k2 => k_asm); (case k3 => k_asm); (case k4 => k_asm); (case k5 => k_asm); (case kK => first | exact rfl | assumption); (case kd => ktr_room); (case ku => ktr_units); (case kb => (k_fmods; omega)); (case kc => (k_fmods; omega)); k_whole); intro t' h' tk' F' N'; (try dsimp only); (try k_fold)))
-- fmix
local macro_rules | `(tactic| walk_at "call ref") => `(tactic| (k_here; (with_reducible show wpAny _ _ (call (Value.ref 63) _) _ _ _); k_dflt (refine' fmix_says ?ka ?k1 ?k2 ?k3 ?k4 ?k5 ?kK ?kd ?ku ?_; (case k1 => k_asm); (case k2 => k_asm); (case k3 => k_asm); (case k4 => k_asm); (case k5 => k_asm); (case kK => first | exact rfl | assumption); (case kd => ktr_room); (case ku => ktr_units); (case ka => with_reducible assumption); k_whole); intro t' h' tk' F' N'; (try dsimp only); (try k_fold)))
-- the mixed
local macro_rules | `(tactic| walk_at "call ref") => `(tactic| (k_here; (with_reducible show wpAny _ _ (call (Value.ref 101) _) _ _ _); k_dflt (refine' mixed_says' ?k1 ?k2 ?k3 ?k4 ?k5 ?kK ?kd ?ku ?_; (case k1 => k_asm); (case k2 => k_asm); (case k3 => k_asm); (case k4 => k_asm); (case k5 => k_asm); (case kK => first | exact rfl | assumption); (case kd => ktr_room); (case ku => ktr_units); k_whole); intro t' h' tk' F' N'; (try dsimp only); (try k_fold)))
-- truncate
local macro_rules | `(tactic| walk_at "call ref") => `(tactic| (k_here; (with_reducible show wpAny _ _ (call (Value.ref 70) _) _ _ _); k_dflt (refine' truncate_says' ?k1 ?k2 ?k3 ?k4 ?k5 ?kK ?kd ?ku ?_; (case k1 => k_asm); (case k2 => k_asm); (case k3 => k_asm); (case k4 => k_asm); (case k5 => k_asm); (case kK => first | exact rfl | assumption); (case kd => ktr_room); (case ku => ktr_units); k_whole); intro t' h' tk' F' N'; (try dsimp only); (try k_fold)))
local macro_rules | `(tactic| walk_at "binaryOp FloorDiv int int") => `(tactic| (k_here; with_reducible refine fdiv16_at (by first | omega | ((try simp only [List.length_map]); omega)) ?_))
local macro_rules | `(tactic| walk_at "binaryOp Mod int int") => `(tactic| (k_here; with_reducible refine fmod16_at ?_))
local macro_rules | `(tactic| walk_at "call ref") => `(tactic| (k_here; (with_reducible show wpAny _ _ (call (Value.ref 108) _) _ _ _); k_dflt (refine' signed_at ?kx ?ka ?kb ?kc ?ke ?k1 ?k2 ?k3 ?k4 ?k5 ?kK ?kd ?ku ?_; (case kx => with_reducible assumption); (case k1 => k_asm); (case k2 => k_asm); (case k3 => k_asm); (case k4 => k_asm); (case k5 => k_asm); (case ka => first | kcf_m | k_mem); (case kb => first | assumption | l_ints); (case kK => first | exact rfl | assumption); (case kd => ktr_room); (case ku => ktr_units); (case kc => exact slice8 (by with_reducible assumption) (by (try simp only [List.length_map] at *); omega)); (case ke => ((try simp only [List.length_map] at *); omega)); k_whole); intro t' h' tk' F' N'; (try dsimp only); (try k_fold)))
local macro_rules | `(tactic| walk_at "call ref") => `(tactic| (k_here; (with_reducible show wpAny _ _ (call (Value.ref 49) _) _ _ _); k_dflt (refine' body_at ?ka ?kb ?kc ?ke ?kf ?kg ?k1 ?k2 ?k3 ?k4 ?k5 ?kK ?kd ?ku ?_; (case k1 => k_asm); (case k2 => k_asm); (case k3 => k_asm); (case k4 => k_asm); (case k5 => k_asm); (case kK => first | exact rfl | assumption); (case kd => ktr_room); (case ku => ktr_units); (case ka => assumption); (case kb => ((try simp only [List.length_map] at *); omega)); (case kc => with_reducible assumption); (case ke => ((try simp only [List.length_map, rangeKs_length] at *); omega)); (case kf => with_reducible assumption); (case kg => ((try simp only [List.length_map] at *); omega)); k_whole); intro D' T2' T1' v2' v1' tk0' h' tk' F' N' l1' l2' l3' hI1' hI2'; (try k_lt l3'); (try dsimp only); (try k_fold)))
local macro_rules | `(tactic| walk_at "call builtin:isinstance") => `(tactic| (k_here; k_dflt (refine' isi_tup ?k1 ?k2 ?k3 ?_; (case k1 => k_asm); (case k2 => k_mem); (case k3 => rfl); k_whole)))
local macro_rules | `(tactic| walk_at "exec Assign cons ListComp") => `(tactic| (k_here; (with_reducible show wpAny _ _ (exec (Stmt.Assign [Expr.Name (Str.ofString "tail") _] _ _) _) _ _ _); k_dflt (refine LCg.Assign_ListComp_U (F₀ := by k_asm) (by rfl) (by with_unfolding_all rfl) (by with_unfolding_all rfl) (by decide) (by rfl) (by decide) (by rfl) (by rfl) (by rfl) ?_)))
local macro_rules | `(tactic| walk_at "subscriptTail Name Slice ref ref") => `(tactic| (k_here; (with_reducible show wpAny _ _ (subscriptTail _ (PySem.Expr.Slice (some _) none none _) (Value.ref _) (Value.ref _)) _ _ _); k_dflt (refine' kmk_slice_ints ?F ?N ?l ?p ?q ?i ?m ?c ?_ ?s ?t ?z; (case F => k_asm); (case N => k_asm); (case l => kmk_list); (case p => kmk_part); (case q => kmk_part); (case i => l_ints); (case m => (refine' kmk_from ?gi ?gx; (case gi => l_ints); (case gx => omega))); (case c => rfl); (case s => with_unfolding_all rfl); (case t => kmk_pure); (case z => kmk_size)); intro D' ws' h' F' N' l1 hI' hC' hL'; (try k_lt l1); (try k_sweep)))
local macro_rules | `(tactic| walk_at "call builtin:len") => `(tactic| (k_here; (with_reducible show wpAny _ _ (call (Value.builtin "len") [Value.ref _]) _ _ _); k_dflt (refine' len_at ?F ?m ?i ?l ?_; (case F => k_asm); (case m => k_mem); (case i => first | assumption | l_ints); (case l => ((try simp only [List.length_map, List.length_drop]); omega)); k_whole)))
local macro_rules | `(tactic| walk_at "compareOp Eq int int") => `(tactic| (k_here; (with_reducible show wpAny _ _ (compareOp CmpOp.Eq (Value.int ((_ : Nat) : Int) _) (Value.int ((_ : Nat) : Int) _)) _ _ _); refine eq_true (by first | rfl | ((try simp only [List.length_map, List.length_drop]); omega)) ?_))

set_option maxRecDepth 100000 in
set_option maxHeartbeats 8000000 in
theorem law_holds : PySem.Challenge.rw_bq5004_01.Holds := by
  k_with_none
  refine hd ?_
  k_go0
  all_goals try k_fold
  k_with "pyIter ref" => first | k_state_given ["octets"] (fun (os : List Int) (pre : List Int) (body : List Int) => body = bodyTo os pre.length ∧ body.length = pre.length) "body" | k_state_short (fun (pre : List Int) nb => nb.length = 6 ∧ NbOk nb) "numbers"
  k_with "state" => first | exact body_start | exact body_state (by with_reducible assumption) | exact nb_start' (by assumption) | assumption
  k_steps
end

end MineMur

theorem PySem.Challenge.cw_bq5004_01_holds : PySem.Challenge.rw_bq5004_01.Holds :=
  MineMur.law_holds
