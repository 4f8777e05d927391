import PyProof.Rows.All
import Wide.All
import OpenK.AllK
import Wide.FinOn
import PySem.Challenge.RW_yd0004_02
set_option Elab.async false
set_option maxRecDepth 100000
set_option maxHeartbeats 8000000
set_option linter.unusedSimpArgs false
set_option linter.unusedVariables false
namespace Mine
section
open PySem PySem.W PyProof.Rows
section
local macro_rules | `(tactic| o_head $_) => `(tactic| assumption)
set_option maxRecDepth 100000 in
set_option maxHeartbeats 8000000 in
theorem hb02 (h : OpenRow.Holds PySem.Challenge.rw_yd0004_02.row) : OpenRow.Holds PySem.Challenge.rw_yd0004_02.row := by
  k_head
end
end

section
open PySem PySem.W PyProof.Rows PySem.Calls PySem.Builtin
/-! int(text, 2) -/
theorem typeCall_int2 (a b : Value) : checkTypeCall "int" ⟨[a, b], []⟩ = pure () := by kernel_rfl
theorem newCall_int2 (a b : Value) : checkBuiltinCall "int.__new__" ⟨[.type "int", a, b], []⟩ = pure () := by kernel_rfl
theorem args_init3 (a b c : Value) : argsOk "object.__init__" ⟨[a, b, c], []⟩ := by unfold argsOk; kernel_rfl

theorem wp_text2 {M : Model} {A : Around} {E : Value → Shared → Prop} {s : Shared} {Q : Value → Shared → Prop} {v : Value} {text : List Nat} {n : Int}
    (hs : (text.takeWhile (· != 0)).length ≤ 640) (hr : (int_private% "readNumeral") 0 2 (text.takeWhile (· != 0)) = (int_private% "Numeral.value") n)
    (ha : ((text.takeWhile (· != 0)).length == text.length) = true) (h : Q (.int n s.toks) { s with toks := s.toks + 1 }) :
    wpAny M A ((int_private% "intFromText") v text 2) Q E s := by
  obtain ⟨hp, g, d, tk, os⟩ := s
  repeat (any_goals (first
    | assumption
    | (with_reducible refine wpAny_ite_true (decide_eq_true hs) ?_)
    | (with_reducible refine wpAny_ite_true (decide_eq_true ha) ?_)
    | wp_step))
  all_goals (try rw [hr])
  all_goals (try dsimp only)
  repeat (any_goals (first
    | assumption
    | (with_reducible refine wpAny_ite_true (decide_eq_true hs) ?_)
    | (with_reducible refine wpAny_ite_true (decide_eq_true ha) ?_)
    | wp_step))

structure Hid (p : Prop) : Prop where
  out : p

theorem gives_text2 {x : Str} {u t2 : Tok} {n : Int} (h0 : x.cps.all (· < 128) = true) (hs : (x.cps.toList.takeWhile (· != 0)).length ≤ 640) (hr : (int_private% "readNumeral") 0 2 (x.cps.toList.takeWhile (· != 0)) = (int_private% "Numeral.value") n)
    (ha : ((x.cps.toList.takeWhile (· != 0)).length == x.cps.toList.length) = true) : Gives (Builtin.«int.__new__» ⟨[.type "int", .str x u, .int 2 t2], []⟩) (.int n) :=
  .of_wp fun M A E s Q h => by
    obtain ⟨hp, g, d, tk, os⟩ := s
    have f1 := F.conv_sub_int
    have f2 := F.madeHere_int
    have hk := Hid.mk (And.intro hs (And.intro hr ha))
    clear hs hr ha
    repeat (any_goals (first
      | assumption
      | ((with_reducible show wpAny _ _ ((int_private% "intFromText") _ _ _) _ _ _); (try rw [if_pos h0]); refine wp_text2 hk.out.1 hk.out.2.1 hk.out.2.2 ?_)
      | wp_step))
    all_goals exact ⟨_, rfl, h⟩

theorem call_int2 {prog : Program} {w : World} {A : Around} {E : Value → Shared → Prop} {s : Shared} {Q : Value → Shared → Prop} {x : Str} {t t2 : Tok} {n : Int}
    (h0 : x.cps.all (· < 128) = true) (hs : (x.cps.toList.takeWhile (· != 0)).length ≤ 640) (hr : (int_private% "readNumeral") 0 2 (x.cps.toList.takeWhile (· != 0)) = (int_private% "Numeral.value") n)
    (ha : ((x.cps.toList.takeWhile (· != 0)).length == x.cps.toList.length) = true) (h : Q (.int n s.toks) { s with toks := s.toks + 1 }) : wpAny (model prog w) A (call (.type "int") [.str x t, .int 2 t2]) Q E s :=
  callType_new F.called_int F.newNe_int (typeCall_int2 _ _) (newCall_int2 _ _) (fun obj => args_init3 obj _ _) F.entry_int_new (gives_text2 h0 hs hr ha).meets (show (Made.int n).post _ s from ⟨rfl, h⟩)

/-! pow(b, e, m) -/
theorem kind_pow : builtinKind "pow" = none := by decide +kernel
theorem plain_pow : plainId "pow" = true := by decide +kernel
theorem entry_pow : entryFor table "pow" = some Builtin.«pow» := entryFor_of_fast (by kernel_rfl)
theorem args_pow (a b c : Value) : argsOk "pow" ⟨[a, b, c], []⟩ := by unfold argsOk; kernel_rfl

theorem gives_pow3 (b : Int) (t : Tok) (e : Int) (u : Tok) (v : Tok) (he : (decide (e < 0)) = false) : Gives (Builtin.«int.__pow__» ⟨[.int b t, .int e u, .int 3329 v], []⟩) (.int (Builtin.powMod (b % (3329 : Int)).toNat e.natAbs 3329 : Nat)) :=
  .of_wp fun M A E s Q h => by
    obtain ⟨hp, g, d, tk, os⟩ := s
    repeat (any_goals (first | assumption | (with_reducible refine wpAny_ite_false he ?_) | wp_step))
    all_goals exact ⟨_, rfl, h⟩

theorem gives_powinv (t u v : Tok) : Gives (Builtin.«int.__pow__» ⟨[.int 128 t, .int (-1) u, .int 3329 v], []⟩) (.int 3303) :=
  .of_wp fun M A E s Q h => by
    obtain ⟨hp, g, d, tk, os⟩ := s
    repeat (any_goals (first | assumption | wp_step))
    all_goals exact ⟨.int 3303 tk, congrArg (fun z => Fin.done (Flow.ret (Value.int z tk))) (by decide +kernel), h⟩

theorem call_pow3 {prog : Program} {w : World} {A : Around} {E : Value → Shared → Prop} {s : Shared} {Q : Value → Shared → Prop} {b e r : Int} {t u v : Tok}
    (gi : Gives (Builtin.«int.__pow__» ⟨[.int b t, .int e u, .int 3329 v], []⟩) (.int r)) (h : ∀ t' tk', Q (.int r t') { s with toks := tk' }) :
    wpAny (model prog w) A (call (.builtin "pow") [.int b t, .int e u, .int 3329 v]) Q E s := by
  refine call_function_entry kind_pow plain_pow entry_pow (args_pow _ _ _) ?_
  obtain ⟨hp, g, d, tk, os⟩ := s
  have hT : (⟨hp, g, d, tk, os⟩ : Shared).TypeIs (.int b t) "int" := rfl
  have f3 := F.slot_int_pow.lookup
  have f4 := F.slot_int_pow.bind (.int b t)
  have f5 : typeLookup (Value.type "int") (Str.ofString "__pow__") = pure (some (.builtin "int.__pow__")) := by rw [typeLookup_type, builtinLookup_eq_fast]; kernel_rfl
  repeat (any_goals (first | assumption | ((with_reducible show wpAny _ _ (call (Value.builtin "int.__pow__") _ _) _ _ _); refine call_gives F.slot_int_pow hT F.entry_int_pow (F.args_int_pow_3 _ _ _) gi ?_; dsimp only [Made.post]) | wp_step))
  all_goals exact ⟨_, rfl, h _ _⟩

/-! the text of _br -/
noncomputable def numVal (r : int_private% "Numeral") : Option Int := (int_private% "Numeral.rec") (motive := fun _ => Option Int) none (fun _ => none) none (fun i => some i) r
theorem numVal_some {r : int_private% "Numeral"} {v : Int} (h : numVal r = some v) : r = (int_private% "Numeral.value") v := by
  unfold numVal at h
  cases r <;> simp at h
  subst h; rfl
def brA (i : Int) : Str := baseText "0b" 2 (Builtin.bitAnd i (2 ^ Int.toNat 7 - 1))
def brB (i : Int) : Str := Txt.zfill (Txt.slice (brA i) (some 2) none) 7
def brC (i : Int) : Str := Txt.sliceBy (brB i) none none (-1, 0)
noncomputable def brOk (i : Int) : Bool := decide ((brA i).length ≤ 20) && decide ((brB i).length ≤ 20) && (brC i).cps.all (· < 128) && decide (((brC i).cps.toList.takeWhile (· != 0)).length ≤ 640) &&
  (((brC i).cps.toList.takeWhile (· != 0)).length == (brC i).cps.toList.length) &&
  (match numVal ((int_private% "readNumeral") 0 2 ((brC i).cps.toList.takeWhile (· != 0))) with | some v => decide (0 ≤ v) && decide (v < 128) | none => false)
theorem brOk_all : ∀ n : Nat, n < 128 → brOk (n : Int) = true := by decide +kernel
theorem brOk_of {i : Int} (h0 : 0 ≤ i) (h1 : i < 128) : brOk i = true := by
  obtain ⟨n, rfl⟩ := Int.eq_ofNat_of_zero_le h0
  exact brOk_all n (by omega)
@[irreducible] noncomputable def brV (i : Int) : Int := (numVal ((int_private% "readNumeral") 0 2 ((brC i).cps.toList.takeWhile (· != 0)))).getD 0
theorem brFacts {i : Int} (h0 : 0 ≤ i) (h1 : i < 128) : (brA i).length ≤ 20 ∧ (brB i).length ≤ 20 ∧ (brC i).cps.all (· < 128) = true ∧ ((brC i).cps.toList.takeWhile (· != 0)).length ≤ 640 ∧
    (((brC i).cps.toList.takeWhile (· != 0)).length == (brC i).cps.toList.length) = true ∧ 0 ≤ brV i ∧ brV i < 128 ∧ (int_private% "readNumeral") 0 2 ((brC i).cps.toList.takeWhile (· != 0)) = (int_private% "Numeral.value") (brV i) := by
  have h := brOk_of h0 h1
  unfold brOk at h
  simp only [Bool.and_eq_true, decide_eq_true_eq] at h
  obtain ⟨⟨⟨⟨⟨a, b⟩, c⟩, d⟩, e⟩, f⟩ := h
  refine ⟨a, b, c, d, e, ?_⟩
  unfold brV
  split at f
  · rename_i v hv
    simp only [Bool.and_eq_true, decide_eq_true_eq] at f
    rw [hv]
    exact ⟨f.1, f.2, numVal_some hv⟩
  · cases f
theorem sz20 {x : Str} (h : x.length ≤ 20) : x.length ≤ sizeLine := Nat.le_trans h (by rw [sizeLine_eq]; decide)
theorem brA_size {i : Int} (h0 : 0 ≤ i) (h1 : i < 128) : (baseText "0b" 2 (Builtin.bitAnd i (2 ^ Int.toNat 7 - 1))).length ≤ sizeLine := sz20 (brFacts h0 h1).1
theorem brB_size {i : Int} (h0 : 0 ≤ i) (h1 : i < 128) : (Txt.zfill (Txt.slice (baseText "0b" 2 (Builtin.bitAnd i (2 ^ Int.toNat 7 - 1))) (some 2) none) 7).length ≤ sizeLine := sz20 (brFacts h0 h1).2.1
theorem call_br_int {prog : Program} {w : World} {A : Around} {E : Value → Shared → Prop} {s : Shared} {Q : Value → Shared → Prop} {i : Int} {t t2 t3 : Tok} (h0 : 0 ≤ i) (h1 : i < 128)
    (h : Q (.int (brV i) s.toks) { s with toks := s.toks + 1 }) :
    wpAny (model prog w) A (call (.type "int") [.str (Txt.sliceBy (Txt.zfill (Txt.slice (baseText "0b" 2 (Builtin.bitAnd i (2 ^ Int.toNat 7 - 1))) (some 2) none) 7) none none (-1, t3)) t, .int 2 t2]) Q E s := by
  obtain ⟨_, _, c, d, e, v0, v1, r⟩ := brFacts h0 h1
  exact call_int2 (x := brC i) c d r e h
theorem brV_dec {i : Int} (h0 : 0 ≤ i) (h1 : i < 128) : decide (brV i < 0) = false := decide_eq_false (Int.not_lt.mpr (brFacts h0 h1).2.2.2.2.2.1)
end

section
open PySem PySem.W PyProof.Rows PySem.Calls PySem.Builtin
theorem meets_bytes_out (b : Array UInt8) (i : Int) (t u : Tok) (hr : Bytes.fitsIndex i = true) (hb : (seqIndex? i b.size).bind (b[·]?) = none) :
    Meets («bytes.__getitem__» ⟨[.bytes b t, .int i u], []⟩) (raisesNew "IndexError") :=
  .of_wp fun prog w A R s h => by
    show wpAny (model prog w) _ (Bytes.subscript? (.int i u) >>= fun r => _) _ _ s
    refine wpAny_bind ?_
    unfold Bytes.subscript?
    refine wpAny_bind (wpAny_specialOf (typeIs_int s i u) F.slot_int_index.lookup ?_)
    show wpAny (model prog w) _ (if (!Bytes.fitsIndex i) = true then _ else pure (some i)) _ _ s
    rw [hr]
    refine wpAny_pure ?_
    show wpAny (model prog w) _ (match (seqIndex? i b.size).bind (b[·]?) with | some x => retInt x.toNat | none => _) _ _ s
    rw [hb]
    first
      | exact wpAny_rule (by exact_raiseError plainExc_IndexError h.1 h.2)
      | exact wpAny_bind (wpAny_rule (by exact_raiseError plainExc_IndexError h.1 h.2))
      | exact wpAny_bind (wpAny_rule (wpAny_bind (by exact_raiseError plainExc_IndexError h.1 h.2)))

theorem item_or {prog : Program} {w : World} {A : Around} {E : Value → Shared → Prop} {s : Shared} {Q : Value → Shared → Prop} {value slice : PySem.Expr} {b : Array UInt8} {t ui : Tok} {ks : List Int} {i : Int}
    (hh : A.handled = none) (hk : KBw.bInts b = ks) (hfit : ks.length ≤ 100000) (h0 : 0 ≤ i) (h9 : i ≤ 1000000)
    (h : i < (ks.length : Int) → 0 ≤ ks.getD i.toNat 0 → ks.getD i.toNat 0 < 256 → ∀ t' k, Q (.int (ks.getD i.toNat 0) t') { s with toks := k })
    (hE : (ks.length : Int) ≤ i → ∀ h' tk e, Heap.NewExc s.heap h' e "IndexError" → E (.ref e) { s with heap := h', toks := tk })
    (hs : subscripted slice false (.bytes b t) (.int i ui) = operate [.bytes b t, .int i ui] (getItem (.bytes b t) (.int i ui)) := by with_unfolding_all rfl)
    (ht : ∀ r, letTemporaryGo value (.bytes b t) r = pure () := by intro _; with_unfolding_all rfl) : wpAny (model prog w) A (subscriptTail value slice (.bytes b t) (.int i ui)) Q E s := by
  by_cases h1 : i < (ks.length : Int)
  · exact KBw.item_K hk (by omega) h0 h1 (fun t' k a c => h h1 a c t' k) hs ht
  · refine tail_of_ItemOn ⟨"bytes", _, FB.slot_bytes_getitem.lookup, typeIs_bytes _ _ _, ?_⟩ hs ht
    subst hk
    rw [KBw.ints_length] at h1
    refine getItem_meets (typeIs_bytes _ _ _) (by decide) FB.slot_bytes_getitem FB.entry_bytes_getitem (FB.args_bytes_getitem_2 _ _) (meets_bytes_out b i t ui ?_ ?_) ⟨hh, ?_⟩
    · simp only [Bytes.fitsIndex, Bool.and_eq_true, decide_eq_true_eq]; omega
    · have hn : ¬ i < 0 := by omega
      simp [seqIndex?, hn, h0]
      intro hx; omega
    · rw [KBw.ints_length] at hE
      exact hE (by omega)

section
variable {M : Model} {A : Around} {E : Value → Shared → Prop} {s : Shared} {K : Frag} {env : Env} {pos : Pos} {x C : Addr} {ox : Obj} {od : Option Obj} {first : List Value} {Q : Value → Shared → Prop}
theorem kco_callWith_KW {f : Addr} {e : PySem.Expr} {rest : List PySem.Expr} {kws : List Keyword} (_X : K.In s.heap) (_I : InstAt s.heap x ox C od) (hd : ox.data = .plain) (_hs : findIn K (.ref C) "__call__" = some (some (.ref f)))
    (hall : (backToKw pos (keywordEach kws env)).all (·.1.isSome) = true)
    (h : wpAny M A (spliced (backTo pos (starEach (e :: rest) env))) (fun vs s₁ => wpAny M A (evalAll ((backToKw pos (keywordEach kws env)).map (·.2)))
      (fun ks s₂ => kco_P K x C ox od s₂.heap ∧ wpAny M A (call (.ref x) (first ++ vs) (((backToKw pos (keywordEach kws env)).filterMap (·.1)).zip ks)) Q E s₂) E s₁) E s)
    (hplain : ((backTo pos (starEach (e :: rest) env)).any (·.1) || (backToKw pos (keywordEach kws env)).any (·.1.isNone)) = false := by rfl) (he : starEach (e :: rest) env = (false, eval e env) :: starEach rest env := by rfl) :
    wpAny M A (callWith pos (.ref x) first (backTo pos (starEach (e :: rest) env)) (backToKw pos (keywordEach kws env))) Q E s :=
  kco_callWith_of hplain hd (evalArgs_kw2 hall h he)
end

theorem raisedN_sub {base : Heap} {l : List Env} {e : Addr} {cls : Value} {news news' : List (Addr × Obj)} {h : Heap} (R : RaisedN base l e cls news h) (hs : ∀ p ∈ news', p ∈ news) : RaisedN base l e cls news' h := by
  obtain ⟨B, a0, h1, h2, h3⟩ := R
  exact ⟨B, a0, h1, fun q hq => h2 q (hs q hq), h3⟩
theorem news_sub {h₀ : Heap} {L : Addr} {h : Heap} {l l' : List (Addr × Obj)} (N : News h₀ L h l) (hs : ∀ p ∈ l', p ∈ l) : News h₀ L h l' := fun p hp => N p (hs p hp)
theorem sub_tail2 {α : Type} {a b : α} {l : List α} : ∀ p ∈ l, p ∈ a :: b :: l := fun _ h => .tail _ (.tail _ h)
theorem sub_mid4 {α : Type} {a b c d : α} {l : List α} : ∀ p ∈ a :: b :: c :: l, p ∈ a :: b :: c :: d :: l := fun p h => by
  simp only [List.mem_cons] at h ⊢
  rcases h with h | h | h | h
  · exact .inl h
  · exact .inr (.inl h)
  · exact .inr (.inr (.inl h))
  · exact .inr (.inr (.inr (.inr h)))
end

section
open PySem PySem.W PyProof.Rows PySem.Calls PyProof.V PySem.Spec
section
variable {prog : Program} {w : World} {A : Around} {E : Value → Shared → Prop} {s : Shared} {env : Env} {h₀ : Heap} {x : Str} {body : List Stmt} {Q : Flow → Shared → Prop}
/-- a loop over a range whose turns may make and keep objects: the state says the whole ledger -/
def FreeEnd {σ : Type} (h₀ : Heap) (L : Addr) (Led : σ → List (Addr × Obj)) (ps : σ → List (Str × Value)) (x : Str) (stored : List Str) (m₀ : Str → Option Value) (P : σ → Prop) (own : List (Addr × Obj)) (s₁ s₂ : Shared) : Prop :=
  ∃ h' tk m' news' c, s₂ = { s₁ with heap := h', toks := tk } ∧ Fr h₀ L h' m' ∧ News h₀ L h' news' ∧ (∀ p ∈ Led c, p ∈ news') ∧ (∀ p ∈ own, p ∈ news') ∧ OwnOff own ((Led c).map (·.1)) ∧ (∀ p ∈ ps c, m' p.1 = some p.2) ∧
    (∀ z, z ≠ x → (∀ p ∈ ps c, z ≠ p.1) → stored.contains z = false → m' z = m₀ z) ∧ P c
def FreePost {σ : Type} (h₀ : Heap) (L : Addr) (Led : σ → List (Addr × Obj)) (ps : σ → List (Str × Value)) (x : Str) (stored : List Str) (m₀ : Str → Option Value) (P : σ → Prop) (own : List (Addr × Obj)) (s₁ : Shared) (Q : Flow → Shared → Prop) (f : Flow) (s₂ : Shared) : Prop :=
  match f with
  | .ret v => Q (.ret v) s₂
  | .brk => Q .next s₂
  | _ => FreeEnd h₀ L Led ps x stored m₀ P own s₁ s₂
theorem iter_free {σ : Type} {r : Addr} {a₀ b₀ : Int} {t₀ u₀ v₀ : Tok} {n : Nat} {m₀ : Str → Option Value} (Led : σ → List (Addr × Obj)) (ps : σ → List (Str × Value)) (stored : List Str) (P : Nat → σ → Prop) (c₀ : σ)
    (hh : A.handled = none) (hr : IsRange s.heap r a₀ b₀ 1 t₀ u₀ v₀) (hsmall : Builtin.Range.small a₀ b₀ 1 = true) (hn : Builtin.Range.rangeSize a₀ b₀ 1 = (n : Int)) (F : Fr h₀ env.locals s.heap m₀) (N : News h₀ env.locals s.heap (Led c₀)) (hk : ∀ p ∈ ps c₀, m₀ p.1 = some p.2) (hp : P 0 c₀)
    (turn : ∀ (c : σ) (i : Nat) t (u : Str → Option Value) h tk own, i < n → OwnOff own ((Led c).map (·.1)) → P i c →
      Fr h₀ env.locals h (fun y => if y = x then some (.int (a₀ + (i : Int)) t) else kstB (fun z => if stored.contains z then u z else m₀ z) (ps c) y) → News h₀ env.locals h (Led c ++ own) →
      wpAny (model prog w) A (execs body env) (FreePost h₀ env.locals Led ps x stored m₀ (P (i + 1)) own { s with heap := h, toks := tk } Q) E { s with heap := h, toks := tk })
    (done : ∀ (c : σ) (u : Str → Option Value) h tk, P n c → Fr h₀ env.locals h (fun y => if y = x then u y else kstB (fun z => if stored.contains z then u z else m₀ z) (ps c) y) → News h₀ env.locals h (Led c) → Q .next { s with heap := h, toks := tk }) :
    wpAny (model prog w) A (pyIter (.ref r)) (fun it s₂ => LoopAtV prog w A h₀ env x body Q E it s₂) E s := by
  refine wpAny_pyIter_range hr hsmall ?_
  have W : Walks prog w A s.heap.objs.size [s.heap.objs.size] [s.heap.objs.size] n (fun i v => i < n ∧ ∃ t, v = .int (a₀ + i * 1) t)
      (fun i h => IsRangeIter h s.heap.objs.size (a₀ + (i : Nat) * 1) ((n : Int) - (i : Nat)) 1) := (Walks.range hh _ a₀ 1 n).bound
  let J' : Nat → (Str → Option Value) → List (Addr × Obj) → Prop := fun i m nx => ∃ c : σ, nx = Led c ∧ (∀ p ∈ ps c, m p.1 = some p.2) ∧ (∀ z, z ≠ x → (∀ p ∈ ps c, z ≠ p.1) → stored.contains z = false → m z = m₀ z) ∧ P i c
  have hnewI : h₀.get? s.heap.objs.size = none := next_is_new F
  refine ⟨_, _, _, n, _, _, m₀, Led c₀, J', rfl, W, ?_, ?_, ?_, (by show IsRangeIter _ _ _ _ _; rw [hn]; simpa using Heap.get?_push_size _ rfl), F.push _, (fun p hp => ⟨Heap.get?_push_of_some _ (N p hp).1, (N p hp).2⟩), ⟨c₀, rfl, hk, fun _ _ _ _ => rfl, hp⟩, ?_, ?_⟩
  · intro hm
    exact absurd F.ns.lt ((List.mem_singleton.mp hm) ▸ Nat.lt_irrefl _)
  · intro b hb
    rw [List.mem_singleton.mp hb]
    exact hnewI
  · intro p hp hI
    exact absurd (Heap.lt_size (N p hp).1) ((List.mem_singleton.mp hI) ▸ Nat.lt_irrefl _)
  · rintro i v m₁ news₁ s₁ own ⟨hh', tk', rfl⟩ hin ⟨_, t, rfl⟩ ⟨c, rfl, h1, h2, hp'⟩ hoff hown hownHas hownAll hst F₁ N₁
    have hsep : OwnOff own ((Led c).map (·.1)) := by
      intro p hp b hb e
      obtain ⟨q, hq, rfl⟩ := List.mem_map.mp hb
      exact hoff q hq (e ▸ hown p hp)
    have hI : ∃ o, (s.heap.objs.size, o) ∈ own := by
      have hg : ∃ o, hh'.get? s.heap.objs.size = some o := ⟨_, hst⟩
      obtain ⟨o, ho⟩ := hg
      exact ⟨o, hownAll _ (List.mem_singleton.mpr rfl) hnewI o ho⟩
    have e1 : a₀ + (i : Int) * 1 = a₀ + (i : Int) := by omega
    rw [e1] at F₁
    have N₂ : News h₀ env.locals hh' (Led c ++ own) := fun p hp => N₁ p ((List.mem_append.mp hp).elim (fun h => List.mem_append.mpr (.inr h)) fun h => List.mem_append.mpr (.inl h))
    refine wpAny_mono (turn c i t m₁ hh' tk' own hin hsep hp' (kst_fr h1 h2 F₁) N₂) (fun f s₂ p => ?_) fun _ _ e => e
    have fin : FreeEnd h₀ env.locals Led ps x stored m₀ (P (i + 1)) own { s with heap := hh', toks := tk' } s₂ → LoopStepU h₀ env.locals [s.heap.objs.size] own (J' (i + 1)) { s with heap := hh', toks := tk' } .next s₂ := by
      rintro ⟨h', tk, m', news', c', e, F', N', hn', ho, hoff', g1, g2, g3⟩
      refine ⟨rfl, h', tk, m', Led c', e, F', fun p hp => N' p ((List.mem_append.mp hp).elim (ho p) (hn' p)), fun p hp hq => ?_, c', rfl, g1, g2, g3⟩
      obtain ⟨o, hIo⟩ := hI
      exact hoff' _ hIo p.1 (List.mem_map.mpr ⟨p, hp, rfl⟩) (List.mem_singleton.mp hq).symm
    cases f with
    | ret v => exact .ret p
    | brk => exact .brk p
    | next => exact .next (fin p)
    | cont => exact .cont (fin p)
  · rintro h' tk m' news' F' N' _ ⟨c, rfl, h1, h2, hp'⟩
    exact done c m' h' tk hp' (kst_frOut h1 h2 F') N'
end
end

section
open PySem PySem.W PyProof.Rows PySem.Calls PyProof.V PySem.Spec PyProof.Rows.LCg
theorem get_frame {h₀ h h' : Heap} {L b : Addr} {l : List (Addr × Obj)} {o ob : Obj} (N : News h₀ L h l) (N' : News h₀ L h' l) (hm : (b, ob) ∈ l) (e : h.get? b = some o) : h'.get? b = some o := by
  have h1 := (N _ hm).1
  have h2 := (N' _ hm).1
  rw [h1] at e
  rw [← e]; exact h2
section
variable {prog : Program} {w : World} {A : Around} {E : Value → Shared → Prop} {s : Shared} {h₀ : Heap} {L : Addr} {m : Str → Option Value} {env : Env}
/-- a comprehension over zip of two lists of ints: what each turn must show -/
def ZipTurn (prog : Program) (w : World) (A : Around) (h₀ : Heap) (L : Addr) (m : Str → Option Value) (env : Env) (elt : PySem.Expr) (a b : Str) (scope : Scope) (cl : List (Str × Addr)) (s : Shared) (z0 : Addr) (as bs : List Int) (g : Int → Int → Int) (news : List (Addr × Obj)) : Prop :=
  ∀ (x y : Int) (t u : Tok) I oI C oC D m₂ q1 q2 q3 q4 ys h tk (E' : Value → Shared → Prop), x ∈ as → y ∈ bs → NsObj oC m₂ → m₂ a = some (.int x t) → m₂ b = some (.int y u) → Fr h₀ L h m →
    News h₀ L h ((I, oI) :: (C, oC) :: (D, lst ys) :: (z0 + 2, q1) :: (z0 + 3, q2) :: (z0, q3) :: (z0 + 1, q4) :: news) → Off3 I C D ((z0 + 2, q1) :: (z0 + 3, q2) :: (z0, q3) :: (z0 + 1, q4) :: news) → ((@Ne Nat I C) ∧ (@Ne Nat I D) ∧ (@Ne Nat C D)) → KPfMark →
    wpAny (model prog w) A (eval elt (compEnvC scope cl C env)) (CompEnd h₀ L m { s with heap := h, toks := tk } I oI C oC D (lst ys) (fun _ => True) (fun y' news' => KCfEl ((z0 + 2, q1) :: (z0 + 3, q2) :: (z0, q3) :: (z0 + 1, q4) :: news) (g x y) y' news')) E' { s with heap := h, toks := tk }

theorem zip_block {elt iter : PySem.Expr} {a b : Str} {pa pb tp : Pos} {kk : Nat} {scope : Scope} {cl : List (Str × Addr)} {pos : Pos} {s₂ : Shared} {z0 l1 l2 : Addr} {lo1 lo2 : Obj} {xs ys : List Value} {n1 n2 : Nat} {as bs : List Int} {news : List (Addr × Obj)} (g : Int → Int → Int)
    {RR : Value → Addr → Result → Shared → Prop}
    (hh : A.handled = none) (hm1 : (l1, lo1) ∈ news) (hc1 : lo1.cls = .type "list") (hd1 : lo1.data = .seq xs.toArray n1) (hm2 : (l2, lo2) ∈ news) (hc2 : lo2.cls = .type "list") (hd2 : lo2.data = .seq ys.toArray n2)
    (hA : IntsAre xs as) (hB : IntsAre ys bs) (hlen : as.length = bs.length) (hsz : as.length ≤ sizeLine)
    (hz : IsZip s₂.heap (z0 + 4) (z0 + 2) (z0 + 3) .none) (hTI : IsPair s₂.heap (z0 + 2) (.ref z0) (.ref (z0 + 1))) (hTO : IsPair s₂.heap (z0 + 3) .none .none) (hi1 : s₂.heap.IsListIter z0 l1 0) (hi2 : s₂.heap.IsListIter (z0 + 1) l2 0)
    (hcell : ∀ y ∈ scope.names, y.2 ≠ .cell) (hkind : scope.kind = .function) (hxa : scope.names.lookup a = some .local) (hxb : scope.names.lookup b = some .local) (hab : ¬ a = b)
    (F : Fr h₀ L s₂.heap m) (N : News h₀ L s₂.heap news) (hLz : L < z0) (hz0 : ∀ c, z0 ≤ c → h₀.get? c = none) (hlt : ∀ p ∈ news, p.1 < z0) (hsize : s₂.heap.objs.size = z0 + 5)
    (turn : ZipTurn prog w A h₀ L m env elt a b scope cl s₂ z0 as bs g news)
    (hRR : ∀ D C h tk m' zs, Fr h₀ L h m → News h₀ L h ((D, lst zs) :: news) → Off1 D news → h.Ns C m' → h₀.get? C = none → h₀.get? D = none → C ≠ L → D ≠ L → C ≠ D → (∀ p ∈ news, p.1 ≠ C) → IntsAre zs (List.zipWith g as bs) → RR (.ref D) C (.ok .next) { s₂ with heap := h, toks := tk }) :
    wpAny (model prog w) A (newList []) (fun acc s₃ => wpAny (model prog w) A (newFunctionEnv scope env.globals cl [] env.qual none .none (some env)) (fun cenv s₄ =>
      codeAny (model prog w) A (.compStart (.ListComp elt [⟨.Tuple [.Name a pa, .Name b pb] kk tp, iter, [], 0⟩] scope pos) 0 (.ref (z0 + 4)) acc { cenv with scope := relabel scope env }) (RR acc cenv.locals) s₄) E s₃) E s₂ := by
  refine wpAny_newObj_type (wpAny_newFunctionEnv hcell (by intro y hy; simp at hy) (fun h₁ hns₁ hsb₁ => ?_) hkind)
  dsimp only at hns₁ hsb₁ ⊢
  generalize hH2 : s₂.heap.push { cls := .type "list", dict := none, data := .seq ([] : List Value).toArray } = H2 at hns₁ hsb₁ ⊢
  have hC : H2.objs.size = z0 + 5 + 1 := by rw [← hH2, Heap.size_push, hsize]
  rw [hC] at hns₁ hsb₁ ⊢
  have old : ∀ c o, s₂.heap.get? c = some o → h₁.get? c = some o := fun c o e => by
    have hc : c < z0 + 5 := hsize ▸ Heap.lt_size e
    exact hsb₁.extBut c o (Nat.ne_of_lt (Nat.lt_succ_of_lt hc)) (Heap.get?_push_of_some _ (hH2 ▸ Heap.get?_push_of_some _ e))
  have hacc : h₁.get? (z0 + 5) = some (lst []) := hsb₁.extBut _ _ (Nat.ne_of_lt (Nat.lt_succ_self _)) (Heap.get?_push_of_some _ (hH2 ▸ (hsize ▸ Heap.get?_push_size _ rfl)))
  rw [hsize]
  have D : ZipApart (z0 + 4) (z0 + 2) (z0 + 3) z0 (z0 + 1) l1 l2 := ktu_apart _ _ _ (hlt _ hm1) (hlt _ hm2)
  have W := KTurns.ofWalksU (elts := [.Name a pa, .Name b pb]) (k := kk) (pos := tp) (WalksT.zip2 (prog := prog) (w := w) hh (z0 + 4) (z0 + 2) (z0 + 3) z0 (z0 + 1) l1 l2 D xs.toArray ys.toArray).toU
  have hn : min xs.toArray.size ys.toArray.size = as.length := by simp [hA.length, hB.length, hlen]
  rw [hn] at W
  have hD₀ : h₀.get? (z0 + 5) = none := hz0 _ (Nat.le_add_right _ _)
  have hC₀ : h₀.get? (z0 + 5 + 1) = none := hz0 _ (Nat.le_add_right z0 6)
  have hI₀ : h₀.get? (z0 + 4) = none := hz0 _ (Nat.le_add_right _ _)
  have ne : ∀ k : Nat, L ≠ z0 + k := fun k => Nat.ne_of_lt (Nat.lt_of_lt_of_le hLz (Nat.le_add_right _ _))
  have nn : ∀ p ∈ news, ∀ k : Nat, p.1 ≠ z0 + k := fun p hp k => Nat.ne_of_lt (Nat.lt_of_lt_of_le (hlt p hp) (Nat.le_add_right _ _))
  have kn : ∀ {j k : Nat}, j ≠ k → (z0 + j : Nat) ≠ z0 + k := fun h e => h (Nat.add_left_cancel e)
  have offN : Off1 (z0 + 5) news := by
    have : ∀ {l : List (Addr × Obj)}, (∀ p ∈ l, p.1 ≠ z0 + 5) → Off1 (z0 + 5) l := fun {l} => by
      induction l with
      | nil => intro _; trivial
      | cons p r ih => intro h; exact ⟨h p (.head _), ih fun q hq => h q (.tail _ hq)⟩
    exact this fun p hp => nn p hp 5
  have hl1 : ∀ {h : Heap}, News h₀ L h news → h.IsList l1 xs.toArray := fun N => ⟨lo1, (N _ hm1).1, hc1, n1, hd1⟩
  have hl2 : ∀ {h : Heap}, News h₀ L h news → h.IsList l2 ys.toArray := fun N => ⟨lo2, (N _ hm2).1, hc2, n2, hd2⟩
  have loop : ∀ s₃ : Shared, s₃ = { s₂ with heap := h₁, toks := s₂.toks + ([] : List (Str × Value)).length } →
      codeAny (model prog w) A (.compLoop (.ListComp elt [⟨.Tuple [.Name a pa, .Name b pb] kk tp, iter, [], 0⟩] scope pos) 0 (.ref (z0 + 4)) (.ref (z0 + 5)) (compEnvC scope cl (z0 + 5 + 1) env))
        (RR (.ref (z0 + 5)) (z0 + 5 + 1)) s₃ := by
    rintro s₃ rfl
    refine kcp_loop
      (fun k s' => ∃ h' tk i zs m', s' = { s₂ with heap := h', toks := tk } ∧ i ≤ as.length ∧ k = as.length + 1 - i ∧ zs.length = i ∧ IntsAre zs ((List.zipWith g as bs).take i) ∧
        (IsZip h' (z0 + 4) (z0 + 2) (z0 + 3) .none ∧ IsPair h' (z0 + 2) (.ref z0) (.ref (z0 + 1)) ∧ (∃ p q, IsPair h' (z0 + 3) p q) ∧ h'.IsListIter z0 l1 i ∧ h'.IsListIter (z0 + 1) l2 i ∧ h'.IsList l1 xs.toArray ∧ h'.IsList l2 ys.toArray) ∧
        Fr h₀ L h' m ∧ h'.Ns (z0 + 5 + 1) m' ∧ News h₀ L h' ((z0 + 5, lst zs) :: news)) ?_ (as.length + 1)
      ⟨h₁, _, 0, [], _, rfl, Nat.zero_le _, rfl, rfl, by simp only [List.take_zero]; exact .nil, ?_, F.keeps old, hns₁, ?_⟩
    · rintro k s' ⟨h', tk, i, zs, m', rfl, hi, rfl, hyl, hints, hst', F', hn', N'⟩
      by_cases hlti : i < as.length
      · refine W.item i _ _ _ hlti hst' fun v h₂ tk₂ hMd hk₂ => ?_
        refine W.go i v _ _ _ hMd fun h₃ hP hst₃ hk₃ => ?_
        obtain ⟨T, vals, rfl, ⟨vx, vy, hvx, hvy, rfl⟩, hT⟩ := hP
        obtain ⟨x, t, rfl, hx⟩ := IntsAre.at hA i vx (by simpa using hvx)
        obtain ⟨y, u, rfl, hy⟩ := IntsAre.at hB i vy (by simpa using hvy)
        have up₃ : ∀ c o, c ≠ z0 + 4 → c ≠ z0 + 3 → c ≠ z0 → c ≠ z0 + 1 → h'.get? c = some o → h₃.get? c = some o := fun c o e1 e2 e3 e4 e => by
          have hc : c ∉ [z0 + 4, z0 + 3, z0, z0 + 1] := by simp only [List.mem_cons, List.mem_nil_iff, not_or]; exact ⟨e1, e2, e3, e4, not_false⟩
          exact hk₃ c o hc (hk₂ c o hc e)
        refine kcp_assign (env := compEnvC scope cl (z0 + 5 + 1) env) hh hT (lookup_relabel_local hxa) (lookup_relabel_local hxb) (by simp [compEnvC, relabel, hkind])
          (hn'.at' fun o e => up₃ _ o (kn (j := 6) (k := 4) (by decide)) (kn (j := 6) (k := 3) (by decide)) (kn (j := 6) (k := 0) (by decide)) (kn (j := 6) (k := 1) (by decide)) e) fun h₄ tk₄ hn₄ hs₄ => ?_
        have up : ∀ c o, c ≠ z0 + 4 → c ≠ z0 + 3 → c ≠ z0 → c ≠ z0 + 1 → c ≠ z0 + 5 + 1 → h'.get? c = some o → h₄.get? c = some o := fun c o e1 e2 e3 e4 e5 e => hs₄ c o e5 (up₃ c o e1 e2 e3 e4 e)
        have frame₄ : ∀ b ∈ [z0 + 4, z0 + 2, z0 + 3, z0, z0 + 1, l1, l2], ∀ o, h₃.get? b = some o → h₄.get? b = some o := by
          intro c hc o e
          refine hs₄ c o ?_ e
          have g1 := hlt _ hm1
          have g2 := hlt _ hm2
          dsimp only at g1 g2
          simp only [List.mem_cons, List.mem_nil_iff, or_false] at hc
          show (c : Nat) ≠ z0 + 5 + 1
          rcases hc with rfl | rfl | rfl | rfl | rfl | rfl | rfl
          · exact kn (j := 4) (k := 6) (by decide)
          · exact kn (j := 2) (k := 6) (by decide)
          · exact kn (j := 3) (k := 6) (by decide)
          · exact kn (j := 0) (k := 6) (by decide)
          · exact kn (j := 1) (k := 6) (by decide)
          · exact nn _ hm1 6
          · exact nn _ hm2 6
        have hst₄ := W.frame (i + 1) h₃ h₄ hst₃ frame₄
        obtain ⟨oC, heC, hoC⟩ := ns_obj hn₄
        obtain ⟨hz₄, hTI₄, ⟨p₄, q₄, hTO₄⟩, ⟨o3, ho3, hx3⟩, ⟨o4, ho4, hx4⟩, hL1₄, hL2₄⟩ := id hst₄
        obtain ⟨oI, hoI⟩ : ∃ o, h₄.get? (z0 + 4) = some o := ⟨_, hz₄⟩
        obtain ⟨o1, ho1⟩ : ∃ o, h₄.get? (z0 + 2) = some o := ⟨_, hTI₄⟩
        obtain ⟨o2, ho2⟩ : ∃ o, h₄.get? (z0 + 3) = some o := ⟨_, hTO₄⟩
        have F₄ : Fr h₀ L h₄ m := ⟨F'.ns.at' fun o e => up _ o (ne 4) (ne 3) (ne 0) (ne 1) (ne 6) e,
          fun c o e => up c o (fun q => by rw [q, hI₀] at e; cases e) (fun q => by rw [q, hz0 _ (Nat.le_add_right _ _)] at e; cases e) (fun q => by rw [q, hz0 _ (Nat.le_refl _)] at e; cases e) (fun q => by rw [q, hz0 _ (Nat.le_add_right _ _)] at e; cases e) (fun q => by rw [q, hC₀] at e; cases e) (F'.keep c o e), F'.above⟩
        have nD : News h₀ L h₄ ((z0 + 5, lst zs) :: news) := fun q hq => by
          refine ⟨?_, (N' q hq).2⟩
          rcases List.mem_cons.mp hq with rfl | hq'
          · exact up _ _ (kn (j := 5) (k := 4) (by decide)) (kn (j := 5) (k := 3) (by decide)) (kn (j := 5) (k := 0) (by decide)) (kn (j := 5) (k := 1) (by decide)) (kn (j := 5) (k := 6) (by decide)) (N' _ hq).1
          · exact up _ _ (nn q hq' 4) (nn q hq' 3) (nn q hq' 0) (nn q hq' 1) (nn q hq' 6) (N' q hq).1
        have N₄ : News h₀ L h₄ ((z0 + 4, oI) :: (z0 + 5 + 1, oC) :: (z0 + 5, lst zs) :: (z0 + 2, o1) :: (z0 + 3, o2) :: (z0, o3) :: (z0 + 1, o4) :: news) := fun q hq => by
          simp only [List.mem_cons] at hq
          rcases hq with rfl | rfl | rfl | rfl | rfl | rfl | rfl | hq
          · exact ⟨hoI, Ne.symm (ne 4), hI₀⟩
          · exact ⟨heC, Ne.symm (ne 6), hC₀⟩
          · exact nD _ (.head _)
          · exact ⟨ho1, Ne.symm (ne 2), hz0 _ (Nat.le_add_right _ _)⟩
          · exact ⟨ho2, Ne.symm (ne 3), hz0 _ (Nat.le_add_right _ _)⟩
          · exact ⟨ho3, Ne.symm (ne 0), hz0 _ (Nat.le_refl _)⟩
          · exact ⟨ho4, Ne.symm (ne 1), hz0 _ (Nat.le_add_right _ _)⟩
          · exact nD q (.tail _ hq)
        have off₄ : Off3 (z0 + 4) (z0 + 5 + 1) (z0 + 5) ((z0 + 2, o1) :: (z0 + 3, o2) :: (z0, o3) :: (z0 + 1, o4) :: news) := Off3.of fun q hq => by
          simp only [List.mem_cons] at hq
          rcases hq with rfl | rfl | rfl | rfl | hq
          · exact ⟨kn (j := 2) (k := 4) (by decide), kn (j := 2) (k := 6) (by decide), kn (j := 2) (k := 5) (by decide)⟩
          · exact ⟨kn (j := 3) (k := 4) (by decide), kn (j := 3) (k := 6) (by decide), kn (j := 3) (k := 5) (by decide)⟩
          · exact ⟨kn (j := 0) (k := 4) (by decide), kn (j := 0) (k := 6) (by decide), kn (j := 0) (k := 5) (by decide)⟩
          · exact ⟨kn (j := 1) (k := 4) (by decide), kn (j := 1) (k := 6) (by decide), kn (j := 1) (k := 5) (by decide)⟩
          · exact ⟨nn q hq 4, nn q hq 6, nn q hq 5⟩
        refine wpAny_mono (turn x y t u _ oI _ oC _ _ o1 o2 o3 o4 zs h₄ _ _ (List.mem_of_getElem? hx) (List.mem_of_getElem? hy) hoC (by simp [hab]) (by simp) F₄ N₄ off₄ ⟨kn (j := 4) (k := 6) (by decide), kn (j := 4) (k := 5) (by decide), kn (j := 6) (k := 5) (by decide)⟩ True.intro) (fun r s₅ h₅ => ?_) fun _ _ e => e
        obtain ⟨h₅, tk₅, news₅, rfl, F₅, N₅, off₅, _, hnw, t', rfl⟩ := h₅
        subst hnw
        have hst₅ := W.frame (i + 1) h₄ h₅ hst₄ (by
          intro c hc o e
          simp only [List.mem_cons, List.mem_nil_iff, or_false] at hc
          rcases hc with rfl | rfl | rfl | rfl | rfl | rfl | rfl
          · exact get_frame N₄ N₅ (.head _) e
          · exact get_frame N₄ N₅ (.tail _ (.tail _ (.tail _ (.head _)))) e
          · exact get_frame N₄ N₅ (.tail _ (.tail _ (.tail _ (.tail _ (.head _))))) e
          · exact get_frame N₄ N₅ (.tail _ (.tail _ (.tail _ (.tail _ (.tail _ (.head _)))))) e
          · exact get_frame N₄ N₅ (.tail _ (.tail _ (.tail _ (.tail _ (.tail _ (.tail _ (.head _))))))) e
          · exact get_frame N₄ N₅ (.tail _ (.tail _ (.tail _ (.tail _ (.tail _ (.tail _ (.tail _ hm1))))))) e
          · exact get_frame N₄ N₅ (.tail _ (.tail _ (.tail _ (.tail _ (.tail _ (.tail _ (.tail _ hm2))))))) e)
        have zD := (N₅ _ (.tail _ (.tail _ (.head _)))).1
        have zC := (N₅ _ (.tail _ (.head _))).1
        have N₅' : News h₀ L h₅ news := fun q hq => N₅ q (.tail _ (.tail _ (.tail _ (.tail _ (.tail _ (.tail _ (.tail _ hq)))))))
        refine append_at (hsz := by show zs.toArray.size ≤ sizeLine; rw [List.size_toArray, hyl]; exact Nat.le_trans hi hsz) zD fun h₆ hs₆ hD₆ => ?_
        refine ⟨as.length + 1 - (i + 1), by omega, h₆, tk₅, i + 1, zs ++ [.int (g x y) t'], _, rfl, hlti, rfl, by rw [List.length_append, List.length_singleton, hyl], ?_, ?_,
          F₅.change hs₆ (Ne.symm (ne 5)) hD₀, (hoC.ns zC).sameBut hs₆ (kn (j := 6) (k := 5) (by decide)), fun q hq => ?_⟩
        · have e : (List.zipWith g as bs)[i]? = some (g x y) := by rw [List.getElem?_zipWith, hx, hy]
          rw [List.take_add_one, e]
          simpa using IntsAre.append hints (.cons (g x y) t' .nil)
        · refine W.frame (i + 1) h₅ h₆ hst₅ ?_
          intro c hc o e
          refine hs₆.extBut c o ?_ e
          simp only [List.mem_cons, List.mem_nil_iff, or_false] at hc
          show (c : Nat) ≠ z0 + 5
          rcases hc with rfl | rfl | rfl | rfl | rfl | rfl | rfl
          · exact kn (j := 4) (k := 5) (by decide)
          · exact kn (j := 2) (k := 5) (by decide)
          · exact kn (j := 3) (k := 5) (by decide)
          · exact kn (j := 0) (k := 5) (by decide)
          · exact kn (j := 1) (k := 5) (by decide)
          · exact nn _ hm1 5
          · exact nn _ hm2 5
        · rcases List.mem_cons.mp hq with rfl | hq
          · exact ⟨hD₆.trans (congrArg some (lst_snoc zs (.int (g x y) t'))), Ne.symm (ne 5), hD₀⟩
          · exact ⟨hs₆.extBut _ _ (nn q hq 5) (N₅' q hq).1, (N₅' q hq).2⟩
      · obtain rfl : i = as.length := Nat.le_antisymm hi (Nat.not_lt.mp hlti)
        refine W.done _ _ _ hst' fun h₂ tk₂ hk₂ => ?_
        have hk : ∀ c o, c ≠ z0 + 4 → c ≠ z0 + 3 → c ≠ z0 → c ≠ z0 + 1 → h'.get? c = some o → h₂.get? c = some o := fun c o e1 e2 e3 e4 e => by
          have hc : c ∉ [z0 + 4, z0 + 3, z0, z0 + 1] := by simp only [List.mem_cons, List.mem_nil_iff, not_or]; exact ⟨e1, e2, e3, e4, not_false⟩
          exact hk₂ c o hc e
        have hfull : (List.zipWith g as bs).take as.length = List.zipWith g as bs := List.take_of_length_le (by rw [List.length_zipWith, hlen]; omega)
        rw [hfull] at hints
        exact hRR _ _ h₂ tk₂ _ zs ⟨F'.ns.at' fun o e => hk _ o (ne 4) (ne 3) (ne 0) (ne 1) e,
            fun c o e => hk c o (fun q => by rw [q, hI₀] at e; cases e) (fun q => by rw [q, hz0 _ (Nat.le_add_right _ _)] at e; cases e) (fun q => by rw [q, hz0 _ (Nat.le_refl _)] at e; cases e) (fun q => by rw [q, hz0 _ (Nat.le_add_right _ _)] at e; cases e) (F'.keep c o e), F'.above⟩
          (fun q hq => by
            refine ⟨?_, (N' q hq).2⟩
            rcases List.mem_cons.mp hq with rfl | hq'
            · exact hk _ _ (kn (j := 5) (k := 4) (by decide)) (kn (j := 5) (k := 3) (by decide)) (kn (j := 5) (k := 0) (by decide)) (kn (j := 5) (k := 1) (by decide)) (N' _ hq).1
            · exact hk _ _ (nn q hq' 4) (nn q hq' 3) (nn q hq' 0) (nn q hq' 1) (N' q hq).1)
          offN (hn'.at' fun o e => hk _ o (kn (j := 6) (k := 4) (by decide)) (kn (j := 6) (k := 3) (by decide)) (kn (j := 6) (k := 0) (by decide)) (kn (j := 6) (k := 1) (by decide)) e)
          hC₀ hD₀ (Ne.symm (ne 6)) (Ne.symm (ne 5)) (kn (j := 6) (k := 5) (by decide)) (fun q hq => nn q hq 6) hints
    · exact ⟨old _ _ hz, old _ _ hTI, ⟨_, _, old _ _ hTO⟩, hi1.at fun o e => old _ _ e, hi2.at fun o e => old _ _ e, hl1 (fun q hq => ⟨old _ _ (N q hq).1, (N q hq).2⟩), hl2 (fun q hq => ⟨old _ _ (N q hq).1, (N q hq).2⟩)⟩
    · intro q hq
      rcases List.mem_cons.mp hq with rfl | hq
      · exact ⟨hacc, Ne.symm (ne 5), hD₀⟩
      · exact ⟨old _ _ (N q hq).1, (N q hq).2⟩
  exact codeAny_compStart_list (loop _ rfl) (wpAny_pyIter_zip (old _ _ hz) (loop _ rfl))
def ZipSrc (prog : Program) (w : World) (A : Around) (h₀ : Heap) (L : Addr) (m : Str → Option Value) (env : Env) (elt : PySem.Expr) (a b : Str) (scope : Scope) (cl : List (Str × Addr)) (g : Int → Int → Int) (Fin : Shared → List Value → List (Addr × Obj) → Prop) (xv : Value) (s₁ : Shared) : Prop :=
  ∃ (z0 l1 l2 : Addr) (lo1 lo2 : Obj) (xs ys : List Value) (n1 n2 : Nat) (as bs : List Int) (news : List (Addr × Obj)), xv = .ref (z0 + 4) ∧ A.handled = none ∧ Fr h₀ L s₁.heap m ∧ News h₀ L s₁.heap news ∧
    (l1, lo1) ∈ news ∧ lo1.cls = .type "list" ∧ lo1.data = .seq xs.toArray n1 ∧ (l2, lo2) ∈ news ∧ lo2.cls = .type "list" ∧ lo2.data = .seq ys.toArray n2 ∧ IntsAre xs as ∧ IntsAre ys bs ∧ as.length = bs.length ∧ as.length ≤ sizeLine ∧
    IsZip s₁.heap (z0 + 4) (z0 + 2) (z0 + 3) .none ∧ IsPair s₁.heap (z0 + 2) (.ref z0) (.ref (z0 + 1)) ∧ IsPair s₁.heap (z0 + 3) .none .none ∧ s₁.heap.IsListIter z0 l1 0 ∧ s₁.heap.IsListIter (z0 + 1) l2 0 ∧
    L < z0 ∧ (∀ c, z0 ≤ c → h₀.get? c = none) ∧ (∀ p ∈ news, p.1 < z0) ∧ s₁.heap.objs.size = z0 + 5 ∧ ZipTurn prog w A h₀ L m env elt a b scope cl s₁ z0 as bs g news ∧ ∀ zs, IntsAre zs (List.zipWith g as bs) → Fin s₁ zs news
theorem zip_src {elt : PySem.Expr} {a b : Str} {scope : Scope} {cl : List (Str × Addr)} {g : Int → Int → Int} {Fin : Shared → List Value → List (Addr × Obj) → Prop} {l1 l2 : Addr} {lo1 lo2 : Obj} {xs ys : List Value} {n1 n2 : Nat} {as bs : List Int} {news : List (Addr × Obj)}
    (hh : A.handled = none) (F : Fr h₀ L s.heap m) (N : News h₀ L s.heap news) (hm1 : (l1, lo1) ∈ news) (hc1 : lo1.cls = .type "list") (hd1 : lo1.data = .seq xs.toArray n1) (hm2 : (l2, lo2) ∈ news) (hc2 : lo2.cls = .type "list") (hd2 : lo2.data = .seq ys.toArray n2)
    (hA : IntsAre xs as) (hB : IntsAre ys bs) (hlen : as.length = bs.length) (hsz : as.length ≤ sizeLine)
    (turn : ∀ h', ZipTurn prog w A h₀ L m env elt a b scope cl { s with heap := h' } s.heap.objs.size as bs g news) (fin : ∀ h' zs, IntsAre zs (List.zipWith g as bs) → Fin { s with heap := h' } zs news) :
    wpAny (model prog w) A (call (.type "zip") [.ref l1, .ref l2]) (ZipSrc prog w A h₀ L m env elt a b scope cl g Fin) E s := by
  have hl1 : s.heap.IsList l1 xs.toArray := ⟨lo1, (N _ hm1).1, hc1, n1, hd1⟩
  have hl2 : s.heap.IsList l2 ys.toArray := ⟨lo2, (N _ hm2).1, hc2, n2, hd2⟩
  refine call_zip_2 hl1 hl2 fun h' hz hTI hTO hi1 hi2 hsize hk => ?_
  exact ⟨s.heap.objs.size, l1, l2, lo1, lo2, xs, ys, n1, n2, as, bs, news, rfl, hh, F.keeps hk, N.grown hk, hm1, hc1, hd1, hm2, hc2, hd2, hA, hB, hlen, hsz, hz, hTI, hTO, hi1, hi2, F.ns.lt, fun c hc => ktu_new F hc,
    fun p hp => Heap.lt_size (N p hp).1, hsize, turn h', fin h'⟩
theorem Assign_zip {elt iter : PySem.Expr} {a b y : Str} {pa pb tp py : Pos} {kk : Nat} {scope : Scope} {cl : List (Str × Addr)} {pos spos : Pos} {Q : Flow → Shared → Prop} (g : Int → Int → Int) (F₀ : Fr h₀ L s.heap m) (hLe : env.locals = L)
    (hsw : swapsWith (.ListComp elt [⟨.Tuple [.Name a pa, .Name b pb] kk tp, iter, [], 0⟩] scope pos) (some (.Name y py)) spos.line env = pure true)
    (hclos : closureFor scope env = pure cl) (hcell : ∀ z ∈ scope.names, z.2 ≠ .cell) (hkind : scope.kind = .function)
    (hnames : ∀ z ∈ scope.names, z.2 = .local → scope.names.lookup z.1 = some .local) (hxa : scope.names.lookup a = some .local) (hxb : scope.names.lookup b = some .local) (hab : ¬ a = b)
    (hy : env.kindOf y = some .local) (hp : (env.scope.kind == .class || (env.scope.kind == .module && env.locals != env.globals)) = false)
    (h : wpAny (model prog w) A (eval iter env) (ZipSrc prog w A h₀ L m env elt a b scope cl g (fun s₂ => FinA h₀ L m s₂ y Q)) E s)
    (hs : ∀ x, foldedSetIterable iter env x = pure x := by intro _; rfl) :
    wpAny (model prog w) A (exec (.Assign [.Name y py] (.ListComp elt [⟨.Tuple [.Name a pa, .Name b pb] kk tp, iter, [], 0⟩] scope pos) spos) env) Q E s := by
  subst hLe
  rw [exec_Assign_Name_used _ _ _ _ hsw]
  refine wpAny_bind (wpAny_standAt (wpAny_bind ?_))
  show wpAny _ A (do let _ ← comprehension (.ListComp elt [⟨.Tuple [.Name a pa, .Name b pb] kk tp, iter, [], 0⟩] scope pos) scope env _ (newList []) false (eval iter env) (some (assign (.Name y py) env))) _ _ s
  refine wpAny_bind (wpAny_mono (wpAny_comprehension_free (use := some (assign (.Name y py) env)) (Q := fun _ s' => Q .next s') rfl hs hclos hkind hnames
    (wpAny_mono h (fun xv s₁ h₁ => ?_) fun _ _ e => e)) (fun _ s' hq => wpAny_pure (wpAny_pure hq)) fun _ _ e => e)
  obtain ⟨z0, l1, l2, lo1, lo2, xs, ys, n1, n2, as, bs, news, rfl, hh, F, N, hm1, hc1, hd1, hm2, hc2, hd2, hA, hB, hlen, hsz, hz, hTI, hTO, hi1, hi2, hLz, hz0, hlt, hsize, turn, fin⟩ := h₁
  refine wpAny_pyIter_zip hz ?_
  refine zip_block g hh hm1 hc1 hd1 hm2 hc2 hd2 hA hB hlen hsz hz hTI hTO hi1 hi2 hcell hkind hxa hxb hab F N hLz hz0 hlt hsize turn ?_
  intro D C h' tk m' zs F' N' o1 hn hC₀ hD₀ hCL hDL hCD offC hzs
  show wpAny _ A (assign (.Name y py) env (.ref D)) _ _ _
  refine wpAny_assign_Name (wpAny_storeName_local hy F'.ns (fun h₂ hn₂ hs₂ => ?_) hp)
  have hL₀ : h₀.get? env.locals = none := Heap.get?_none_of_le F'.above
  have F₂ : Fr h₀ env.locals h₂ (fun z => if z = y then some (.ref D) else m z) := ⟨hn₂, fun b o e => hs₂.extBut b o (fun q => by rw [q, hL₀] at e; cases e) (F'.keep b o e), F'.above⟩
  refine ⟨m', hn.sameBut hs₂ hCL, fun h'' hs'' => fin zs hzs D h'' _ (F₂.change hs'' hCL hC₀) (fun p hp => ?_) o1⟩
  have z : h₂.get? p.1 = some p.2 := hs₂.extBut _ _ (N' p hp).2.1 (N' p hp).1
  refine ⟨hs''.extBut _ _ ?_ z, (N' p hp).2⟩
  rcases List.mem_cons.mp hp with rfl | hp
  · exact Ne.symm hCD
  · exact offC p hp
end
end

section
open PySem PySem.W PyProof.Rows PySem.Calls
@[irreducible] def lawAt (ns : List Int) (i : Int) : Int := if i < ns.length then ns.getD i.toNat 0 else Int.fdiv (53*i*i + 29*i) 7

def ConLawAt (V : Program) (w : World) (mean : ExcName → Option Value) (mg mb : Str → Option Value) : Prop :=
  ∀ (dp un : Nat) (gd : Option (List Code)) (cn : Str) (cs : Scope) (a : Addr) (ccd : Value) (cl : List (Str × Addr)) (outer : List Env) (A₀ : Around) (base h₀ : Heap) (L : Addr) (m : Str → Option Value) (news : List (Addr × Obj)) (s : Shared) (l : Addr) (vs : List Value) (ns : List Int) (i : Int) (tk : Tok)
    (Q E : Value → Shared → Prop),
    Below A₀ base outer h₀ → Fr h₀ L s.heap m → (hb02.heap_1 w.params).In h₀ → News h₀ L s.heap news → Top V (looseW V [Str.ofString "PolynomialRing", Str.ofString "PolynomialNTT"]) mean mg mb h₀ → cs.kind = .function → base.IsList l vs.toArray → IntsAre vs ns → ns.length < 2 ^ 62 → 0 ≤ i → i < 1000 → dp + 1 < recursionLimit → un + 8 < cLine →
    (∀ t h' tk', Fr h₀ L h' m → News h₀ L h' news → Q (.int (lawAt ns i) t) { s with heap := h', toks := tk' }) →
    wpAny (model Challenge.rw_yd0004_02.row.prog w) (ktrTop dp un gd cn cs L a ccd cl outer) (call (.ref 431) [.ref l, .int i tk]) Q E s

theorem conLawAt (V : Program) (w : World) (mean : ExcName → Option Value) (mg mb : Str → Option Value) : ConLawAt V w mean mg mb := by
  have hkf : Challenge.rw_yd0004_02 = Challenge.rw_yd0004_02 ∧ hb02.heap_1 = hb02.heap_1 := ⟨rfl, rfl⟩
  suffices h : (Challenge.rw_yd0004_02 = Challenge.rw_yd0004_02 ∧ hb02.heap_1 = hb02.heap_1) → ConLawAt V w mean mg mb from h ⟨rfl, rfl⟩
  k_fill
  intro _
  unfold ConLawAt
  intro dp un gd cn cs a ccd cl outer A₀ base h₀ L m news s l vs ns i tk Q E B F X N T hk hl hi hfit h0 h1 hd hu hret
  refine wpAny_call ?_
  k_dflt cell_enter
  k_steps
  · refine cell_ret hret (by simp only [decide_eq_true_eq, decide_eq_false_iff_not] at *; unfold lawAt; rw [if_pos (by omega)]) (by k_asm) (by k_asm)
  · refine cell_ret hret (by simp only [decide_eq_true_eq, decide_eq_false_iff_not] at *; unfold lawAt; rw [if_neg (by omega)]) (by k_asm) (by k_asm)
end

section
open PySem PySem.W PyProof.Rows PySem.Calls
local macro_rules | `(tactic| walk_at "call builtin:bin") => `(tactic| (k_here; refine P.bin_of_int ?_ (brA_size (by assumption) (by assumption))))
local macro_rules | `(tactic| walk_at "call type:int") => `(tactic| (k_here; (with_reducible show wpAny _ _ (call (Value.type "int") [Value.str _ _, Value.int _ _]) _ _ _); refine call_br_int (by assumption) (by assumption) ?_))
local macro_rules | `(tactic| size_fits) => `(tactic| first | exact brA_size (by assumption) (by assumption) | exact brB_size (by assumption) (by assumption))

def ConBr (V : Program) (w : World) (mean : ExcName → Option Value) (mg mb : Str → Option Value) : Prop :=
  ∀ (dp un : Nat) (gd : Option (List Code)) (cn : Str) (cs : Scope) (a : Addr) (ccd : Value) (cl : List (Str × Addr)) (outer : List Env) (A₀ : Around) (base h₀ : Heap) (L : Addr) (m : Str → Option Value) (news : List (Addr × Obj)) (s : Shared) (i : Int) (tk tk2 : Tok)
    (Q E : Value → Shared → Prop),
    Below A₀ base outer h₀ → Fr h₀ L s.heap m → (hb02.heap_1 w.params).In h₀ → News h₀ L s.heap news → Top V (looseW V [Str.ofString "PolynomialRing", Str.ofString "PolynomialNTT"]) mean mg mb h₀ → cs.kind = .function → 0 ≤ i → i < 128 → dp + 1 < recursionLimit → un + 8 < cLine →
    (∀ t h' tk', Fr h₀ L h' m → News h₀ L h' news → Q (.int (brV i) t) { s with heap := h', toks := tk' }) →
    wpAny (model Challenge.rw_yd0004_02.row.prog w) (ktrTop dp un gd cn cs L a ccd cl outer) (call (.ref 245) [.int i tk, .int 7 tk2]) Q E s

theorem conBr (V : Program) (w : World) (mean : ExcName → Option Value) (mg mb : Str → Option Value) : ConBr V w mean mg mb := by
  suffices h : (Challenge.rw_yd0004_02 = Challenge.rw_yd0004_02 ∧ hb02.heap_1 = hb02.heap_1) → ConBr V w mean mg mb from h ⟨rfl, rfl⟩
  k_fill
  intro _
  unfold ConBr
  intro dp un gd cn cs a ccd cl outer A₀ base h₀ L m news s i tk tk2 Q E B F X N T hk h0 h1 hd hu hret
  refine wpAny_call ?_
  k_dflt cell_enter
  k_steps
  exact hret _ _ _ (by k_asm) (by k_asm)
end

section
open PySem PySem.W PyProof.Rows PySem.Calls
abbrev Sc (nm : List (Str × NameKind)) (ig ic : Bool) (mo : List (Str × Const)) : Scope := { kind := .function, names := nm, isGenerator := ig, isCoroutine := ic, more := mo }
abbrev ringD (w : World) (n : Int) (t1 t2 t3 t4 t5 t6 : Tok) (zv fv : Value) : Obj :=
  dictOf [⟨PyData.keyHash w.params (Str.ofString "q"), .str (Str.ofString "q") t1, .int 3329 t2⟩, ⟨PyData.keyHash w.params (Str.ofString "n"), .str (Str.ofString "n") t3, .int n t4⟩,
    ⟨PyData.keyHash w.params (Str.ofString "ntt_zetas"), .str (Str.ofString "ntt_zetas") t5, zv⟩, ⟨PyData.keyHash w.params (Str.ofString "ntt_f"), .str (Str.ofString "ntt_f") t6, fv⟩] 4
abbrev polyD (w : World) (t7 t8 : Tok) (x D : Addr) : Obj :=
  dictOf [⟨PyData.keyHash w.params (Str.ofString "parent"), .str (Str.ofString "parent") t7, .ref x⟩, ⟨PyData.keyHash w.params (Str.ofString "coeffs"), .str (Str.ofString "coeffs") t8, .ref D⟩] 2
section
local macro_rules | `(tactic| k_room) => `(tactic| ktr_room)
local macro_rules | `(tactic| k_units) => `(tactic| ktr_units)
local macro_rules | `(tactic| walk_at "getMethod ref") => `(tactic| (k_here; k_dflt (first
  | refine' method_inst ?k1 ?k2 ?k3 ?k4 ?k5 ?k6 ?k7 ?_; (case k1 => k_asm); (case k2 => k_asm); (case k3 => k_inst); (case k4 => k_is); (case k5 => k_is); (case k6 => k_is); (case k7 => k_get); k_whole
  | (refine' kmu_sm ?k1 ?k2 ?k4 ?k5 ?k6 ?k7 ?k8 ?k9 ?k10 ?k11 ?k12 ?k13 ?k14 ?_; (case k1 => k_asm); (case k2 => k_asm); (case k4 => k_inst); (case k5 => k_is); (case k6 => k_is); (case k7 => k_is); (case k8 => k_is); (case k9 => k_is); (case k10 => k_is); (case k11 => decide +kernel); (case k12 => k_get); (case k13 => k_is); (case k14 => k_handed); k_whole)); (try dsimp only)))
theorem ne_up1 {a b : Prop} {D : Addr} {l : List (Addr × Obj)} (h : a ∧ b ∧ AllLt D l) : ∀ p ∈ l, p.1 ≠ D + 1 := fun p hp => Nat.ne_of_lt (Nat.lt_succ_of_lt (kst_ltOf h.2.2 p hp))
theorem ne_up2 {a b : Prop} {D : Addr} {l : List (Addr × Obj)} (h : a ∧ b ∧ AllLt D l) : ∀ p ∈ l, p.1 ≠ D + 1 + 1 := fun p hp => Nat.ne_of_lt (Nat.lt_succ_of_lt (Nat.lt_succ_of_lt (kst_ltOf h.2.2 p hp)))
theorem off1_of {D : Addr} : ∀ {l : List (Addr × Obj)}, LCg.Off1 D l → ∀ p ∈ l, p.1 ≠ D
  | [], _, _, h => nomatch h
  | q :: r, h, p, hp => by
    rcases List.mem_cons.mp hp with rfl | hp
    · exact h.1
    · exact off1_of h.2 p hp
theorem lt128a {k : Int} (h : k < 0 + ((128 - 0 : Int).toNat : Int)) : k < 128 := by omega
section
local macro_rules | `(tactic| k_all) => `(tactic| first | exact ne_up1 (by assumption) | exact ne_up2 (by assumption))
local macro_rules | `(tactic| walk_at "call ref") => `(tactic| (k_here; (with_reducible show wpAny _ _ (call (Value.ref 245) [Value.int _ _, Value.int _ _]) _ _ _); k_dflt (refine' conBr _ _ _ _ _ _ _ _ _ _ _ _ _ _ _ _ _ _ _ _ _ _ _ _ _ _ ?k1 ?k2 ?k3 ?k4 ?k5 ?kK ?k9 ?k10 ?kd ?ku ?_; (case k1 => k_asm); (case k2 => k_asm); (case k3 => k_asm); (case k4 => k_asm); (case k5 => k_asm); (case kK => first | exact rfl | assumption); (case k9 => first | assumption | omega | l_fact); (case k10 => first | exact lt128a (by assumption) | omega | l_fact); (case kd => first | exact Nat.le_of_ble_eq_true rfl | ktr_room); (case ku => ((have hcL9 := cLine_is); (simp only [units_under_make, units_in1, units_deeper, Around.mark_units, units_caller]); (try dsimp only [ktrTop]); omega)); k_whole; intro t9 h9 tk9 F9 N9; (try dsimp only))))
local macro_rules | `(tactic| walk_at "call builtin:pow") => `(tactic| (k_here; first | ((refine' call_pow3 (gives_pow3 _ _ _ _ _ ?he) ?_); (case he => exact brV_dec (by assumption) (lt128a (by assumption))); intro t9 tk9; (try dsimp only)) | (refine call_pow3 (gives_powinv _ _ _) ?_; intro t9 tk9; (try dsimp only))))
def ConRing (V : Program) (w : World) (mean : ExcName → Option Value) (mg mb : Str → Option Value) : Prop :=
  ∀ (dp un : Nat) (gd : Option (List Code)) (cn : Str) (nm : List (Str × NameKind)) (ig ic : Bool) (mo : List (Str × Const)) (a : Addr) (ccd : Value) (cl : List (Str × Addr)) (outer : List Env) (A₀ : Around) (base h₀ : Heap) (L : Addr) (m : Str → Option Value) (news : List (Addr × Obj)) (s : Shared)
    (Q E : Value → Shared → Prop),
    Below A₀ base outer h₀ → Fr h₀ L s.heap m → (hb02.heap_1 w.params).In h₀ → News h₀ L s.heap news →
    Top V (looseW V [Str.ofString "PolynomialRing", Str.ofString "PolynomialNTT"]) mean mg mb h₀ → dp + 10 < recursionLimit → un + 80 < cLine →
    (∀ (x dx : Addr) (t1 t2 t3 t4 t5 t6 : Tok) (zv fv : Value) (h' : Heap) (tk' : Nat), Fr h₀ L h' m → (∀ q ∈ news, q.1 < dx) → dx < x → News h₀ L h' ((x, instObj 282 dx) :: (dx, ringD w 256 t1 t2 t3 t4 t5 t6 zv fv) :: news) → Q (.ref x) { s with heap := h', toks := tk' }) →
    wpAny (model Challenge.rw_yd0004_02.row.prog w) (ktrTop dp un gd cn (Sc nm ig ic mo) L a ccd cl outer) (call (.ref 282) []) Q E s
set_option maxHeartbeats 2000000 in
theorem conRing (V : Program) (w : World) (mean : ExcName → Option Value) (mg mb : Str → Option Value) : ConRing V w mean mg mb := by
  suffices h : (Challenge.rw_yd0004_02 = Challenge.rw_yd0004_02 ∧ hb02.heap_1 = hb02.heap_1) → ConRing V w mean mg mb from h ⟨rfl, rfl⟩
  k_fill
  intro _
  unfold ConRing
  intro dp un gd cn nm ig ic mo a ccd cl outer A₀ base h₀ L m news s Q E B F X N T hd hu hret
  have hMk : KstMark := kstMark
  k_with_none
  k_steps
  exact hret _ _ _ _ _ _ _ _ _ _ _ _ (by assumption) (by assumption) (by assumption) (news_sub (by assumption) fun p h => .tail _ (.tail _ (.tail _ h)))
end
def ConMk (V : Program) (w : World) (mean : ExcName → Option Value) (mg mb : Str → Option Value) : Prop :=
  ∀ (dp un : Nat) (gd : Option (List Code)) (cn : Str) (nm : List (Str × NameKind)) (ig ic : Bool) (mo : List (Str × Const)) (a : Addr) (ccd : Value) (cl : List (Str × Addr)) (outer : List Env) (A₀ : Around) (base h₀ : Heap) (L : Addr) (m : Str → Option Value) (news : List (Addr × Obj)) (s : Shared)
    (x dx C : Addr) (n : Int) (t1 t2 t3 t4 t5 t6 : Tok) (zv fv : Value) (ys : List Value) (c : Nat) (cs : List Int) (Q E : Value → Shared → Prop),
    Below A₀ base outer h₀ → Fr h₀ L s.heap m → (hb02.heap_1 w.params).In h₀ → News h₀ L s.heap ((C, W.listOf ys.toArray c) :: (x, instObj 282 dx) :: (dx, ringD w n t1 t2 t3 t4 t5 t6 zv fv) :: news) →
    Top V (looseW V [Str.ofString "PolynomialRing", Str.ofString "PolynomialNTT"]) mean mg mb h₀ → dp + 10 < recursionLimit → un + 80 < cLine →
    IntsAre ys cs → (cs.length : Int) = n → n ≤ 1000 →
    (∀ (p dp' : Addr) (t7 t8 : Tok) (h' : Heap) (tk' : Nat), Fr h₀ L h' m → AllLt dp' ((C, W.listOf ys.toArray c) :: (x, instObj 282 dx) :: (dx, ringD w n t1 t2 t3 t4 t5 t6 zv fv) :: news) → dp' < p →
      News h₀ L h' ((p, instObj 346 dp') :: (dp', polyD w t7 t8 x C) :: (C, W.listOf ys.toArray c) :: (x, instObj 282 dx) :: (dx, ringD w n t1 t2 t3 t4 t5 t6 zv fv) :: news) → Q (.ref p) { s with heap := h', toks := tk' }) →
    wpAny (model Challenge.rw_yd0004_02.row.prog w) (ktrTop dp un gd cn (Sc nm ig ic mo) L a ccd cl outer) (call (.ref x) [.ref C]) Q E s
theorem conMk (V : Program) (w : World) (mean : ExcName → Option Value) (mg mb : Str → Option Value) : ConMk V w mean mg mb := by
  suffices h : (Challenge.rw_yd0004_02 = Challenge.rw_yd0004_02 ∧ hb02.heap_1 = hb02.heap_1) → ConMk V w mean mg mb from h ⟨rfl, rfl⟩
  k_fill
  intro _
  unfold ConMk
  intro dp un gd cn nm ig ic mo a ccd cl outer A₀ base h₀ L m news s x dx C n t1 t2 t3 t4 t5 t6 zv fv ys c cs Q E B F X N T hd hu hI hn hn1 hret
  have hMk : KstMark := kstMark
  k_with_none
  k_steps
  exact hret _ _ _ _ _ _ (by assumption) (by assumption) (by assumption) (by assumption)
end
end

section
open PySem PySem.W PyProof.Rows PySem.Calls
local macro_rules | `(tactic| k_room) => `(tactic| ktr_room)
local macro_rules | `(tactic| k_units) => `(tactic| ktr_units)
local macro_rules | `(tactic| walk_at "getMethod ref") => `(tactic| (k_here; k_dflt (first
  | refine' method_inst ?k1 ?k2 ?k3 ?k4 ?k5 ?k6 ?k7 ?_; (case k1 => k_asm); (case k2 => k_asm); (case k3 => k_inst); (case k4 => k_is); (case k5 => k_is); (case k6 => k_is); (case k7 => k_get); k_whole
  | (refine' kmu_sm ?k1 ?k2 ?k4 ?k5 ?k6 ?k7 ?k8 ?k9 ?k10 ?k11 ?k12 ?k13 ?k14 ?_; (case k1 => k_asm); (case k2 => k_asm); (case k4 => k_inst); (case k5 => k_is); (case k6 => k_is); (case k7 => k_is); (case k8 => k_is); (case k9 => k_is); (case k10 => k_is); (case k11 => decide +kernel); (case k12 => k_get); (case k13 => k_is); (case k14 => k_handed); k_whole)); (try dsimp only)))
def GMark (_g : Int → Int → Int) : Prop := True
@[irreducible] def zipL (g : Int → Int → Int) (as bs : List Int) : List Int := List.zipWith g as bs
theorem zip_of {zs : List Value} {g : Int → Int → Int} {as bs : List Int} (h : IntsAre zs (List.zipWith g as bs)) (hl : as.length = bs.length) : IntsAre zs (zipL g as bs) ∧ (zipL g as bs).length = as.length := by
  unfold zipL
  exact ⟨h, by rw [List.length_zipWith, hl]; omega⟩
theorem Assign_zipM {prog : Program} {w : World} {A : Around} {E : Value → Shared → Prop} {s : Shared} {h₀ : Heap} {L : Addr} {m : Str → Option Value} {env : Env} {elt iter : PySem.Expr} {a b y : Str} {pa pb tp py : Pos} {kk : Nat} {scope : Scope} {cl : List (Str × Addr)} {pos spos : Pos} {Q : Flow → Shared → Prop} {g : Int → Int → Int} (_hg : GMark g) (F₀ : Fr h₀ L s.heap m) (hLe : env.locals = L)
    (hsw : swapsWith (.ListComp elt [⟨.Tuple [.Name a pa, .Name b pb] kk tp, iter, [], 0⟩] scope pos) (some (.Name y py)) spos.line env = pure true)
    (hclos : closureFor scope env = pure cl) (hcell : ∀ z ∈ scope.names, z.2 ≠ .cell) (hkind : scope.kind = .function)
    (hnames : ∀ z ∈ scope.names, z.2 = .local → scope.names.lookup z.1 = some .local) (hxa : scope.names.lookup a = some .local) (hxb : scope.names.lookup b = some .local) (hab : ¬ a = b)
    (hy : env.kindOf y = some .local) (hp : (env.scope.kind == .class || (env.scope.kind == .module && env.locals != env.globals)) = false)
    (h : wpAny (model prog w) A (eval iter env) (ZipSrc prog w A h₀ L m env elt a b scope cl g (fun s₂ => LCg.FinA h₀ L m s₂ y Q)) E s)
    (hs : ∀ x, foldedSetIterable iter env x = pure x := by intro _; rfl) :
    wpAny (model prog w) A (exec (.Assign [.Name y py] (.ListComp elt [⟨.Tuple [.Name a pa, .Name b pb] kk tp, iter, [], 0⟩] scope pos) spos) env) Q E s :=
  Assign_zip g F₀ hLe hsw hclos hcell hkind hnames hxa hxb hab hy hp h hs
theorem news_pick3 {h₀ : Heap} {L : Addr} {h : Heap} {l : List (Addr × Obj)} {a b c : Addr × Obj} (N : News h₀ L h l) (ha : a ∈ l) (hb : b ∈ l) (hc : c ∈ l) : News h₀ L h (a :: b :: c :: l) := fun p hp => by
  simp only [List.mem_cons] at hp
  rcases hp with rfl | rfl | rfl | hp
  · exact N _ ha
  · exact N _ hb
  · exact N _ hc
  · exact N _ hp
theorem off_tail {a : Prop} {D : Addr} {l : List (Addr × Obj)} (h : a ∧ LCg.Off1 D l) : LCg.Off1 D l := h.2
theorem off_tail2 {a b : Prop} {D : Addr} {l : List (Addr × Obj)} (h : a ∧ b ∧ LCg.Off1 D l) : LCg.Off1 D l := h.2.2
theorem lt_tail4 {d : Addr} {a b c e f : Addr × Obj} {l : List (Addr × Obj)} (h : AllLt d (a :: b :: c :: e :: f :: l)) : AllLt d (a :: l) := ⟨h.1, h.2.2.2.2.2⟩
theorem lt_tail5 {d : Addr} {a b c e f g : Addr × Obj} {l : List (Addr × Obj)} (h : AllLt d (a :: b :: c :: e :: f :: g :: l)) : AllLt d (a :: l) := ⟨h.1, h.2.2.2.2.2.2⟩
theorem sub_a {α : Type} {a b c d e f g : α} {l : List α} : ∀ p ∈ a :: b :: c :: l, p ∈ a :: b :: c :: d :: e :: f :: g :: l := fun p h => by
  simp only [List.mem_cons] at h ⊢
  rcases h with h | h | h | h
  · exact .inl h
  · exact .inr (.inl h)
  · exact .inr (.inr (.inl h))
  · exact .inr (.inr (.inr (.inr (.inr (.inr (.inr h))))))
theorem sub_b {α : Type} {a b c d e f g k : α} {l : List α} : ∀ p ∈ a :: b :: c :: l, p ∈ a :: b :: c :: d :: e :: f :: g :: k :: l := fun p h => by
  simp only [List.mem_cons] at h ⊢
  rcases h with h | h | h | h
  · exact .inl h
  · exact .inr (.inl h)
  · exact .inr (.inr (.inl h))
  · exact .inr (.inr (.inr (.inr (.inr (.inr (.inr (.inr h)))))))
local macro_rules | `(tactic| walk_at "call ref") => `(tactic| (k_here; (with_reducible show wpAny _ _ (call (Value.ref _) [Value.ref _]) _ _ _); k_dflt (refine' conMk _ _ _ _ _ _ _ _ _ _ _ _ _ _ _ _ _ _ _ _ _ _ _ _ _ _ _ _ _ _ _ _ _ _ _ _ _ _ _ _ _ ?k1 ?k2 ?k3 ?k4 ?k5 ?kd ?ku ?kI ?kn ?km (fun p9 dp9 a9 b9 h9 tk9 F9 l9 l9' N9 => ?_); (case k1 => k_asm); (case k2 => k_asm); (case k3 => k_asm); (case k4 => exact news_pick3 (by k_asm) (by k_mem) (by k_mem) (by k_mem)); (case k5 => k_asm); (case kI => assumption); (case kn => first | assumption | (rw [List.length_map]; assumption) | omega); (case km => first | assumption | omega); (case kd => first | exact Nat.le_of_ble_eq_true rfl | ktr_room); (case ku => ((have hcL9 := cLine_is); (simp only [units_under_make, units_in1, units_deeper, Around.mark_units, units_caller]); (try dsimp only [ktrTop]); omega)); (try dsimp only))))
section
local macro_rules | `(tactic| walk_at "ZipTurn") => `(tactic| (unfold ZipTurn; intro x' y' t' u' I' oI' C' oC' D' m' q1' q2' q3' q4' ys' h' tk' E' hxm' hym' hC' hx' hy' F' N' off' ne' hMark'; (try simp only [LCg.Off3, and_true] at off')))
local macro_rules | `(tactic| walk_at "exec Assign cons ListComp") => `(tactic| (k_here; k_dflt (refine Assign_zipM (by assumption) (by k_asm) (by rfl) (by with_unfolding_all rfl) (by with_unfolding_all rfl) (by decide) (by rfl) (by decide) (by rfl) (by rfl) (by decide) (by rfl) (by rfl) ?_)))
local macro_rules | `(tactic| walk_at "call type:zip") => `(tactic| (k_here; k_dflt (refine' zip_src (by rfl) (by k_asm) (by k_asm) (by k_mem) (by rfl) (by rfl) (by k_mem) (by rfl) (by rfl) (by assumption) (by assumption) (by omega) ?hz1 (fun h' => ?_) (fun h' zs hzs => ?_); (case hz1 => (rw [PySem.sizeLine_eq]; omega)); k_whole); (all_goals (try (obtain ⟨hzs2, hzl⟩ := zip_of hzs (by omega); clear hzs)))))
def ConAdd (V : Program) (w : World) (mean : ExcName → Option Value) (mg mb : Str → Option Value) : Prop :=
  ∀ (dp un : Nat) (gd : Option (List Code)) (cn : Str) (nm : List (Str × NameKind)) (ig ic : Bool) (mo : List (Str × Const)) (a : Addr) (ccd : Value) (cl : List (Str × Addr)) (outer : List Env) (A₀ : Around) (base h₀ : Heap) (L : Addr) (m : Str → Option Value) (news : List (Addr × Obj)) (s : Shared)
    (p dq C q du D : Addr) (t7 t8 t9 t10 : Tok) (ys zs : List Value) (c c2 : Nat) (cs ds : List Int) (x dx : Addr) (n : Int) (t1 t2 t3 t4 t5 t6 : Tok) (zv fv : Value) (Q E : Value → Shared → Prop),
    Below A₀ base outer h₀ → Fr h₀ L s.heap m → (hb02.heap_1 w.params).In h₀ → News h₀ L s.heap ((p, instObj 346 dq) :: (dq, polyD w t7 t8 x C) :: (C, W.listOf ys.toArray c) :: (q, instObj 346 du) :: (du, polyD w t9 t10 x D) :: (D, W.listOf zs.toArray c2) :: (x, instObj 282 dx) :: (dx, ringD w n t1 t2 t3 t4 t5 t6 zv fv) :: news) →
    Top V (looseW V [Str.ofString "PolynomialRing", Str.ofString "PolynomialNTT"]) mean mg mb h₀ → dp + 12 < recursionLimit → un + 100 < cLine →
    IntsAre ys cs → IntsAre zs ds → (cs.length : Int) = n → (ds.length : Int) = n → n ≤ 1000 →
    (∀ (r dr R : Addr) (us : List Value) (c3 : Nat) (u1 u2 : Tok) (h' : Heap) (tk' : Nat), IntsAre us (zipL (fun x y => (x + y).fmod 3329) cs ds) → Fr h₀ L h' m → LCg.Off1 R ((p, instObj 346 dq) :: (dq, polyD w t7 t8 x C) :: (C, W.listOf ys.toArray c) :: (q, instObj 346 du) :: (du, polyD w t9 t10 x D) :: (D, W.listOf zs.toArray c2) :: (x, instObj 282 dx) :: (dx, ringD w n t1 t2 t3 t4 t5 t6 zv fv) :: news) → AllLt dr ((R, W.listOf us.toArray c3) :: (p, instObj 346 dq) :: (dq, polyD w t7 t8 x C) :: (C, W.listOf ys.toArray c) :: (q, instObj 346 du) :: (du, polyD w t9 t10 x D) :: (D, W.listOf zs.toArray c2) :: (x, instObj 282 dx) :: (dx, ringD w n t1 t2 t3 t4 t5 t6 zv fv) :: news) → dr < r → News h₀ L h' ((r, instObj 346 dr) :: (dr, polyD w u1 u2 x R) :: (R, W.listOf us.toArray c3) :: (p, instObj 346 dq) :: (dq, polyD w t7 t8 x C) :: (C, W.listOf ys.toArray c) :: (q, instObj 346 du) :: (du, polyD w t9 t10 x D) :: (D, W.listOf zs.toArray c2) :: (x, instObj 282 dx) :: (dx, ringD w n t1 t2 t3 t4 t5 t6 zv fv) :: news) → Q (.ref r) { s with heap := h', toks := tk' }) →
    wpAny (model Challenge.rw_yd0004_02.row.prog w) (ktrTop dp un gd cn (Sc nm ig ic mo) L a ccd cl outer) (binaryOp .Add (.ref p) (.ref q)) Q E s
theorem conAdd (V : Program) (w : World) (mean : ExcName → Option Value) (mg mb : Str → Option Value) : ConAdd V w mean mg mb := by
  suffices h : (Challenge.rw_yd0004_02 = Challenge.rw_yd0004_02 ∧ hb02.heap_1 = hb02.heap_1) → ConAdd V w mean mg mb from h ⟨rfl, rfl⟩
  k_fill
  intro _
  unfold ConAdd
  intro dp un gd cn nm ig ic mo a ccd cl outer A₀ base h₀ L m news s p dq C q du D t7 t8 t9 t10 ys zs c c2 cs ds x dx n t1 t2 t3 t4 t5 t6 zv fv Q E B F X N T hd hu hI hJ hn hm hn1 hret
  have hMk : KstMark := kstMark
  have hG : GMark (fun x y => (x + y).fmod 3329) := trivial
  k_with_none
  k_steps
  exact hret _ _ _ _ _ _ _ _ _ (by assumption) (by assumption) (off_tail (by assumption)) (lt_tail4 (by assumption)) (by assumption) (news_sub (by assumption) sub_a)
def ConSub (V : Program) (w : World) (mean : ExcName → Option Value) (mg mb : Str → Option Value) : Prop :=
  ∀ (dp un : Nat) (gd : Option (List Code)) (cn : Str) (nm : List (Str × NameKind)) (ig ic : Bool) (mo : List (Str × Const)) (a : Addr) (ccd : Value) (cl : List (Str × Addr)) (outer : List Env) (A₀ : Around) (base h₀ : Heap) (L : Addr) (m : Str → Option Value) (news : List (Addr × Obj)) (s : Shared)
    (p dq C q du D : Addr) (t7 t8 t9 t10 : Tok) (ys zs : List Value) (c c2 : Nat) (cs ds : List Int) (x dx : Addr) (n : Int) (t1 t2 t3 t4 t5 t6 : Tok) (zv fv : Value) (Q E : Value → Shared → Prop),
    Below A₀ base outer h₀ → Fr h₀ L s.heap m → (hb02.heap_1 w.params).In h₀ → News h₀ L s.heap ((p, instObj 346 dq) :: (dq, polyD w t7 t8 x C) :: (C, W.listOf ys.toArray c) :: (q, instObj 346 du) :: (du, polyD w t9 t10 x D) :: (D, W.listOf zs.toArray c2) :: (x, instObj 282 dx) :: (dx, ringD w n t1 t2 t3 t4 t5 t6 zv fv) :: news) →
    Top V (looseW V [Str.ofString "PolynomialRing", Str.ofString "PolynomialNTT"]) mean mg mb h₀ → dp + 12 < recursionLimit → un + 100 < cLine →
    IntsAre ys cs → IntsAre zs ds → (cs.length : Int) = n → (ds.length : Int) = n → n ≤ 1000 →
    (∀ (r dr R : Addr) (us : List Value) (c3 : Nat) (u1 u2 : Tok) (h' : Heap) (tk' : Nat), IntsAre us (zipL (fun x y => (x - y).fmod 3329) cs ds) → Fr h₀ L h' m → LCg.Off1 R ((p, instObj 346 dq) :: (dq, polyD w t7 t8 x C) :: (C, W.listOf ys.toArray c) :: (q, instObj 346 du) :: (du, polyD w t9 t10 x D) :: (D, W.listOf zs.toArray c2) :: (x, instObj 282 dx) :: (dx, ringD w n t1 t2 t3 t4 t5 t6 zv fv) :: news) → AllLt dr ((R, W.listOf us.toArray c3) :: (p, instObj 346 dq) :: (dq, polyD w t7 t8 x C) :: (C, W.listOf ys.toArray c) :: (q, instObj 346 du) :: (du, polyD w t9 t10 x D) :: (D, W.listOf zs.toArray c2) :: (x, instObj 282 dx) :: (dx, ringD w n t1 t2 t3 t4 t5 t6 zv fv) :: news) → dr < r → News h₀ L h' ((r, instObj 346 dr) :: (dr, polyD w u1 u2 x R) :: (R, W.listOf us.toArray c3) :: (p, instObj 346 dq) :: (dq, polyD w t7 t8 x C) :: (C, W.listOf ys.toArray c) :: (q, instObj 346 du) :: (du, polyD w t9 t10 x D) :: (D, W.listOf zs.toArray c2) :: (x, instObj 282 dx) :: (dx, ringD w n t1 t2 t3 t4 t5 t6 zv fv) :: news) → Q (.ref r) { s with heap := h', toks := tk' }) →
    wpAny (model Challenge.rw_yd0004_02.row.prog w) (ktrTop dp un gd cn (Sc nm ig ic mo) L a ccd cl outer) (binaryOp .Sub (.ref p) (.ref q)) Q E s
theorem conSub (V : Program) (w : World) (mean : ExcName → Option Value) (mg mb : Str → Option Value) : ConSub V w mean mg mb := by
  suffices h : (Challenge.rw_yd0004_02 = Challenge.rw_yd0004_02 ∧ hb02.heap_1 = hb02.heap_1) → ConSub V w mean mg mb from h ⟨rfl, rfl⟩
  k_fill
  intro _
  unfold ConSub
  intro dp un gd cn nm ig ic mo a ccd cl outer A₀ base h₀ L m news s p dq C q du D t7 t8 t9 t10 ys zs c c2 cs ds x dx n t1 t2 t3 t4 t5 t6 zv fv Q E B F X N T hd hu hI hJ hn hm hn1 hret
  have hMk : KstMark := kstMark
  have hG : GMark (fun x y => (x - y).fmod 3329) := trivial
  k_with_none
  k_steps
  exact hret _ _ _ _ _ _ _ _ _ (by assumption) (by assumption) (off_tail (by assumption)) (lt_tail4 (by assumption)) (by assumption) (news_sub (by assumption) sub_a)
end
end

section
open PySem PySem.W PyProof.Rows PySem.Calls
local macro_rules | `(tactic| walk_at "none 0") => `(tactic| skip)
local macro_rules | `(tactic| walk_at "none 1") => `(tactic| skip)
local macro_rules | `(tactic| k_room) => `(tactic| ktr_room)
local macro_rules | `(tactic| k_units) => `(tactic| ktr_units)
local macro_rules | `(tactic| walk_at "getMethod ref") => `(tactic| (k_here; k_dflt (first
  | refine' method_inst ?k1 ?k2 ?k3 ?k4 ?k5 ?k6 ?k7 ?_; (case k1 => k_asm); (case k2 => k_asm); (case k3 => k_inst); (case k4 => k_is); (case k5 => k_is); (case k6 => k_is); (case k7 => k_get); k_whole
  | (refine' kmu_sm ?k1 ?k2 ?k4 ?k5 ?k6 ?k7 ?k8 ?k9 ?k10 ?k11 ?k12 ?k13 ?k14 ?_; (case k1 => k_asm); (case k2 => k_asm); (case k4 => k_inst); (case k5 => k_is); (case k6 => k_is); (case k7 => k_is); (case k8 => k_is); (case k9 => k_is); (case k10 => k_is); (case k11 => decide +kernel); (case k12 => k_get); (case k13 => k_is); (case k14 => k_handed); k_whole)); (try dsimp only)))
local macro_rules | `(tactic| walk_at "call ref") => `(tactic| (k_here; (with_reducible show wpAny _ _ (call (Value.ref _) [Value.ref _]) _ _ _); k_dflt (refine' conMk _ _ _ _ _ _ _ _ _ _ _ _ _ _ _ _ _ _ _ _ _ _ _ _ _ _ _ _ _ _ _ _ _ _ _ _ _ _ _ _ _ ?k1 ?k2 ?k3 ?k4 ?k5 ?kd ?ku ?kI ?kn ?km (fun p9 dp9 a9 b9 h9 tk9 F9 l9 l9' N9 => ?_); (case k1 => k_asm); (case k2 => k_asm); (case k3 => k_asm); (case k4 => exact news_pick3 (by k_asm) (by k_mem) (by k_mem) (by k_mem)); (case k5 => k_asm); (case kI => assumption); (case kn => first | assumption | (rw [List.length_map]; assumption) | omega); (case km => first | assumption | omega); (case kd => first | exact Nat.le_of_ble_eq_true rfl | ktr_room); (case ku => ((have hcL9 := cLine_is); (simp only [units_under_make, units_in1, units_deeper, Around.mark_units, units_caller]); (try dsimp only [ktrTop]); omega)); (try dsimp only))))
def ConMul (V : Program) (w : World) (mean : ExcName → Option Value) (mg mb : Str → Option Value) : Prop :=
  ∀ (dp un : Nat) (gd : Option (List Code)) (cn : Str) (nm : List (Str × NameKind)) (ig ic : Bool) (mo : List (Str × Const)) (a : Addr) (ccd : Value) (cl : List (Str × Addr)) (outer : List Env) (A₀ : Around) (base h₀ : Heap) (L : Addr) (m : Str → Option Value) (news : List (Addr × Obj)) (s : Shared)
    (p dq C : Addr) (t7 t8 : Tok) (ys : List Value) (c : Nat) (cs : List Int) (k : Int) (tk : Tok) (x dx : Addr) (n : Int) (t1 t2 t3 t4 t5 t6 : Tok) (zv fv : Value) (Q E : Value → Shared → Prop),
    Below A₀ base outer h₀ → Fr h₀ L s.heap m → (hb02.heap_1 w.params).In h₀ → News h₀ L s.heap ((p, instObj 346 dq) :: (dq, polyD w t7 t8 x C) :: (C, W.listOf ys.toArray c) :: (x, instObj 282 dx) :: (dx, ringD w n t1 t2 t3 t4 t5 t6 zv fv) :: news) →
    Top V (looseW V [Str.ofString "PolynomialRing", Str.ofString "PolynomialNTT"]) mean mg mb h₀ → dp + 12 < recursionLimit → un + 100 < cLine →
    IntsAre ys cs → (cs.length : Int) = n → n ≤ 1000 → -1000 ≤ k → k ≤ 1000 →
    (∀ (r dr R : Addr) (us : List Value) (c3 : Nat) (u1 u2 : Tok) (h' : Heap) (tk' : Nat), IntsAre us (List.map (fun c => (c * k).fmod 3329) cs) → Fr h₀ L h' m → LCg.Off1 R ((p, instObj 346 dq) :: (dq, polyD w t7 t8 x C) :: (C, W.listOf ys.toArray c) :: (x, instObj 282 dx) :: (dx, ringD w n t1 t2 t3 t4 t5 t6 zv fv) :: news) → AllLt dr ((R, W.listOf us.toArray c3) :: (p, instObj 346 dq) :: (dq, polyD w t7 t8 x C) :: (C, W.listOf ys.toArray c) :: (x, instObj 282 dx) :: (dx, ringD w n t1 t2 t3 t4 t5 t6 zv fv) :: news) → dr < r → News h₀ L h' ((r, instObj 346 dr) :: (dr, polyD w u1 u2 x R) :: (R, W.listOf us.toArray c3) :: (p, instObj 346 dq) :: (dq, polyD w t7 t8 x C) :: (C, W.listOf ys.toArray c) :: (x, instObj 282 dx) :: (dx, ringD w n t1 t2 t3 t4 t5 t6 zv fv) :: news) → Q (.ref r) { s with heap := h', toks := tk' }) →
    wpAny (model Challenge.rw_yd0004_02.row.prog w) (ktrTop dp un gd cn (Sc nm ig ic mo) L a ccd cl outer) (binaryOp .Mult (.ref p) (.int k tk)) Q E s
theorem conMul (V : Program) (w : World) (mean : ExcName → Option Value) (mg mb : Str → Option Value) : ConMul V w mean mg mb := by
  suffices h : (Challenge.rw_yd0004_02 = Challenge.rw_yd0004_02 ∧ hb02.heap_1 = hb02.heap_1) → ConMul V w mean mg mb from h ⟨rfl, rfl⟩
  k_fill
  intro _
  unfold ConMul
  intro dp un gd cn nm ig ic mo a ccd cl outer A₀ base h₀ L m news s p dq C t7 t8 ys c cs k tk x dx n t1 t2 t3 t4 t5 t6 zv fv Q E B F X N T hd hu hI hn hn1 hk1 hk2 hret
  have hMk : KstMark := kstMark
  k_with_none
  k_steps
  exact hret _ _ _ _ _ _ _ _ _ (by assumption) (by assumption) (off_tail2 (by assumption)) (lt_tail5 (by assumption)) (by assumption) (news_sub (by assumption) sub_b)
def ConNeg (V : Program) (w : World) (mean : ExcName → Option Value) (mg mb : Str → Option Value) : Prop :=
  ∀ (dp un : Nat) (gd : Option (List Code)) (cn : Str) (nm : List (Str × NameKind)) (ig ic : Bool) (mo : List (Str × Const)) (a : Addr) (ccd : Value) (cl : List (Str × Addr)) (outer : List Env) (A₀ : Around) (base h₀ : Heap) (L : Addr) (m : Str → Option Value) (news : List (Addr × Obj)) (s : Shared)
    (p dq C : Addr) (t7 t8 : Tok) (ys : List Value) (c : Nat) (cs : List Int) (x dx : Addr) (n : Int) (t1 t2 t3 t4 t5 t6 : Tok) (zv fv : Value) (Q E : Value → Shared → Prop),
    Below A₀ base outer h₀ → Fr h₀ L s.heap m → (hb02.heap_1 w.params).In h₀ → News h₀ L s.heap ((p, instObj 346 dq) :: (dq, polyD w t7 t8 x C) :: (C, W.listOf ys.toArray c) :: (x, instObj 282 dx) :: (dx, ringD w n t1 t2 t3 t4 t5 t6 zv fv) :: news) →
    Top V (looseW V [Str.ofString "PolynomialRing", Str.ofString "PolynomialNTT"]) mean mg mb h₀ → dp + 12 < recursionLimit → un + 100 < cLine →
    IntsAre ys cs → (cs.length : Int) = n → n ≤ 1000 → 
    (∀ (r dr R : Addr) (us : List Value) (c3 : Nat) (u1 u2 : Tok) (h' : Heap) (tk' : Nat), IntsAre us (List.map (fun c => (-c).fmod 3329) cs) → Fr h₀ L h' m → LCg.Off1 R ((p, instObj 346 dq) :: (dq, polyD w t7 t8 x C) :: (C, W.listOf ys.toArray c) :: (x, instObj 282 dx) :: (dx, ringD w n t1 t2 t3 t4 t5 t6 zv fv) :: news) → AllLt dr ((R, W.listOf us.toArray c3) :: (p, instObj 346 dq) :: (dq, polyD w t7 t8 x C) :: (C, W.listOf ys.toArray c) :: (x, instObj 282 dx) :: (dx, ringD w n t1 t2 t3 t4 t5 t6 zv fv) :: news) → dr < r → News h₀ L h' ((r, instObj 346 dr) :: (dr, polyD w u1 u2 x R) :: (R, W.listOf us.toArray c3) :: (p, instObj 346 dq) :: (dq, polyD w t7 t8 x C) :: (C, W.listOf ys.toArray c) :: (x, instObj 282 dx) :: (dx, ringD w n t1 t2 t3 t4 t5 t6 zv fv) :: news) → Q (.ref r) { s with heap := h', toks := tk' }) →
    wpAny (model Challenge.rw_yd0004_02.row.prog w) (ktrTop dp un gd cn (Sc nm ig ic mo) L a ccd cl outer) (unaryOp .USub (.ref p)) Q E s
theorem conNeg (V : Program) (w : World) (mean : ExcName → Option Value) (mg mb : Str → Option Value) : ConNeg V w mean mg mb := by
  suffices h : (Challenge.rw_yd0004_02 = Challenge.rw_yd0004_02 ∧ hb02.heap_1 = hb02.heap_1) → ConNeg V w mean mg mb from h ⟨rfl, rfl⟩
  k_fill
  intro _
  unfold ConNeg
  intro dp un gd cn nm ig ic mo a ccd cl outer A₀ base h₀ L m news s p dq C t7 t8 ys c cs x dx n t1 t2 t3 t4 t5 t6 zv fv Q E B F X N T hd hu hI hn hn1 hret
  have hMk : KstMark := kstMark
  k_with_none
  k_steps
  exact hret _ _ _ _ _ _ _ _ _ (by assumption) (by assumption) (off_tail (by assumption)) (lt_tail4 (by assumption)) (by assumption) (news_sub (by assumption) sub_a)
end

section
open PySem PySem.W PyProof.Rows PySem.Calls
local macro_rules | `(tactic| k_room) => `(tactic| ktr_room)
local macro_rules | `(tactic| k_units) => `(tactic| ktr_units)
local macro_rules | `(tactic| walk_at "getMethod ref") => `(tactic| (k_here; k_dflt (first
  | refine' method_inst ?k1 ?k2 ?k3 ?k4 ?k5 ?k6 ?k7 ?_; (case k1 => k_asm); (case k2 => k_asm); (case k3 => k_inst); (case k4 => k_is); (case k5 => k_is); (case k6 => k_is); (case k7 => k_get); k_whole
  | (refine' kmu_sm ?k1 ?k2 ?k4 ?k5 ?k6 ?k7 ?k8 ?k9 ?k10 ?k11 ?k12 ?k13 ?k14 ?_; (case k1 => k_asm); (case k2 => k_asm); (case k4 => k_inst); (case k5 => k_is); (case k6 => k_is); (case k7 => k_is); (case k8 => k_is); (case k9 => k_is); (case k10 => k_is); (case k11 => decide +kernel); (case k12 => k_get); (case k13 => k_is); (case k14 => k_handed); k_whole)); (try dsimp only)))
@[irreducible] def compV (d x : Int) : Int := ((1 * 2 ^ d.toNat * x + 1664).fdiv 3329).fmod (1 * 2 ^ d.toNat)
@[irreducible] def decV (d x : Int) : Int := (3329 * x + 1 * 2 ^ (d - 1).toNat).fdiv (2 ^ d.toNat)
theorem pow_le {d : Int} (h2 : d ≤ 13) : (2 : Int) ^ d.toNat ≤ 8192 := by
  have h : d.toNat ≤ 13 := by omega
  have h3 : (2 : Nat) ^ d.toNat ≤ 2 ^ 13 := Nat.pow_le_pow_right (by decide) h
  have h4 : ((2 ^ d.toNat : Nat) : Int) ≤ ((2 ^ 13 : Nat) : Int) := Int.ofNat_le.mpr h3
  simpa using h4
theorem pow_pos2 (k : Nat) : (0 : Int) < 2 ^ k := Int.pow_pos (by decide)
theorem pow_ok {d : Int} (b : Int) (h2 : d ≤ 13) : IntMulOk (1 * 2 ^ d.toNat) b := by
  have h := pow_le h2
  have h0 := pow_pos2 d.toNat
  exact IntMulOk.of_left (intBits_le_64 (by omega) (by omega))
local macro_rules | `(tactic| mul_fits) => `(tactic| with_reducible exact pow_ok _ (by assumption))
def ConCE (V : Program) (w : World) (mean : ExcName → Option Value) (mg mb : Str → Option Value) : Prop :=
  ∀ (dp un : Nat) (gd : Option (List Code)) (cn : Str) (nm : List (Str × NameKind)) (ig ic : Bool) (mo : List (Str × Const)) (a : Addr) (ccd : Value) (cl : List (Str × Addr)) (outer : List Env) (A₀ : Around) (base h₀ : Heap) (L : Addr) (m : Str → Option Value) (news : List (Addr × Obj)) (s : Shared)
    (p : Addr) (xv d : Int) (tx td : Tok) (Q E : Value → Shared → Prop),
    Below A₀ base outer h₀ → Fr h₀ L s.heap m → (hb02.heap_1 w.params).In h₀ → News h₀ L s.heap (news) →
    Top V (looseW V [Str.ofString "PolynomialRing", Str.ofString "PolynomialNTT"]) mean mg mb h₀ → dp + 6 < recursionLimit → un + 60 < cLine →
    1 ≤ d → d ≤ 13 →
    (∀ (t' : Tok) (h' : Heap) (tk' : Nat), Fr h₀ L h' m → News h₀ L h' news → Q (.int (compV d xv) t') { s with heap := h', toks := tk' }) →
    wpAny (model Challenge.rw_yd0004_02.row.prog w) (ktrTop dp un gd cn (Sc nm ig ic mo) L a ccd cl outer) (call (.ref 312) [.ref p, .int xv tx, .int d td]) Q E s
theorem conCE (V : Program) (w : World) (mean : ExcName → Option Value) (mg mb : Str → Option Value) : ConCE V w mean mg mb := by
  suffices h : (Challenge.rw_yd0004_02 = Challenge.rw_yd0004_02 ∧ hb02.heap_1 = hb02.heap_1) → ConCE V w mean mg mb from h ⟨rfl, rfl⟩
  k_fill
  intro _
  unfold ConCE
  intro dp un gd cn nm ig ic mo a ccd cl outer A₀ base h₀ L m news s p xv d tx td Q E B F X N T hd hu hd1 hd2 hret
  have hMk : KstMark := kstMark
  k_with_none
  unfold compV at hret
  k_steps
  exact hret _ _ _ (by assumption) (by assumption)
def ConDE (V : Program) (w : World) (mean : ExcName → Option Value) (mg mb : Str → Option Value) : Prop :=
  ∀ (dp un : Nat) (gd : Option (List Code)) (cn : Str) (nm : List (Str × NameKind)) (ig ic : Bool) (mo : List (Str × Const)) (a : Addr) (ccd : Value) (cl : List (Str × Addr)) (outer : List Env) (A₀ : Around) (base h₀ : Heap) (L : Addr) (m : Str → Option Value) (news : List (Addr × Obj)) (s : Shared)
    (p : Addr) (xv d : Int) (tx td : Tok) (Q E : Value → Shared → Prop),
    Below A₀ base outer h₀ → Fr h₀ L s.heap m → (hb02.heap_1 w.params).In h₀ → News h₀ L s.heap (news) →
    Top V (looseW V [Str.ofString "PolynomialRing", Str.ofString "PolynomialNTT"]) mean mg mb h₀ → dp + 6 < recursionLimit → un + 60 < cLine →
    1 ≤ d → d ≤ 13 →
    (∀ (t' : Tok) (h' : Heap) (tk' : Nat), Fr h₀ L h' m → News h₀ L h' news → Q (.int (decV d xv) t') { s with heap := h', toks := tk' }) →
    wpAny (model Challenge.rw_yd0004_02.row.prog w) (ktrTop dp un gd cn (Sc nm ig ic mo) L a ccd cl outer) (call (.ref 319) [.ref p, .int xv tx, .int d td]) Q E s
theorem conDE (V : Program) (w : World) (mean : ExcName → Option Value) (mg mb : Str → Option Value) : ConDE V w mean mg mb := by
  suffices h : (Challenge.rw_yd0004_02 = Challenge.rw_yd0004_02 ∧ hb02.heap_1 = hb02.heap_1) → ConDE V w mean mg mb from h ⟨rfl, rfl⟩
  k_fill
  intro _
  unfold ConDE
  intro dp un gd cn nm ig ic mo a ccd cl outer A₀ base h₀ L m news s p xv d tx td Q E B F X N T hd hu hd1 hd2 hret
  have hMk : KstMark := kstMark
  k_with_none
  unfold decV at hret
  k_steps
  exact hret _ _ _ (by assumption) (by assumption)
end

section
open PySem PySem.W PyProof.Rows PySem.Calls
local macro_rules | `(tactic| walk_at "none 0") => `(tactic| skip)
local macro_rules | `(tactic| walk_at "none 1") => `(tactic| skip)
local macro_rules | `(tactic| k_room) => `(tactic| ktr_room)
local macro_rules | `(tactic| k_units) => `(tactic| ktr_units)
local macro_rules | `(tactic| walk_at "getMethod ref") => `(tactic| (k_here; k_dflt (first
  | refine' method_inst ?k1 ?k2 ?k3 ?k4 ?k5 ?k6 ?k7 ?_; (case k1 => k_asm); (case k2 => k_asm); (case k3 => k_inst); (case k4 => k_is); (case k5 => k_is); (case k6 => k_is); (case k7 => k_get); k_whole
  | (refine' kmu_sm ?k1 ?k2 ?k4 ?k5 ?k6 ?k7 ?k8 ?k9 ?k10 ?k11 ?k12 ?k13 ?k14 ?_; (case k1 => k_asm); (case k2 => k_asm); (case k4 => k_inst); (case k5 => k_is); (case k6 => k_is); (case k7 => k_is); (case k8 => k_is); (case k9 => k_is); (case k10 => k_is); (case k11 => decide +kernel); (case k12 => k_get); (case k13 => k_is); (case k14 => k_handed); k_whole)); (try dsimp only)))
@[irreducible] def keptY (d tw : Int) (pre : List Int) : Int := pre.foldl (fun y k => if 3329 * (2 * (y + 2 ^ (d - k).toNat) - 1) < tw then y + 2 ^ (d - k).toNat else y) 0
theorem keptY_nil (d tw : Int) : (0 : Int) = keptY d tw [] := by unfold keptY; rfl
theorem keptY_A {d tw k y : Int} {pre : List Int} (h : y = keptY d tw pre) (hc : 3329 * (2 * (y + 2 ^ (d - k).toNat) - 1) < tw) : y + 2 ^ (d - k).toNat = keptY d tw (pre ++ [k]) := by
  unfold keptY at h ⊢
  rw [List.foldl_append, ← h]; simp only [List.foldl_cons, List.foldl_nil]; rw [if_pos hc]
theorem keptY_B {d tw k y : Int} {pre : List Int} (h : y = keptY d tw pre) (hc : ¬ 3329 * (2 * (y + 2 ^ (d - k).toNat) - 1) < tw) : y = keptY d tw (pre ++ [k]) := by
  unfold keptY at h ⊢
  rw [List.foldl_append, ← h]; simp only [List.foldl_cons, List.foldl_nil]; rw [if_neg hc]
@[irreducible] def keptV (d x : Int) : Int := if keptY d (2 ^ (d + 1).toNat * x.fmod 3329) (rangeKs 0 (d + 1 - 0).toNat) = 2 ^ d.toNat then 0 else keptY d (2 ^ (d + 1).toNat * x.fmod 3329) (rangeKs 0 (d + 1 - 0).toNat)
@[irreducible] def backZ (d y : Int) (pre : List Int) : Int := pre.foldl (fun z k => if 2 ^ d.toNat * (2 * (z + 2 ^ (11 - k).toNat) - 1) ≤ 6658 * y then z + 2 ^ (11 - k).toNat else z) 0
theorem backZ_nil (d y : Int) : (0 : Int) = backZ d y [] := by unfold backZ; rfl
theorem backZ_A {d y k z : Int} {pre : List Int} (h : z = backZ d y pre) (hc : 2 ^ d.toNat * (2 * (z + 2 ^ (11 - k).toNat) - 1) ≤ 6658 * y) : z + 2 ^ (11 - k).toNat = backZ d y (pre ++ [k]) := by
  unfold backZ at h ⊢
  rw [List.foldl_append, ← h]; simp only [List.foldl_cons, List.foldl_nil]; rw [if_pos hc]
theorem backZ_B {d y k z : Int} {pre : List Int} (h : z = backZ d y pre) (hc : ¬ 2 ^ d.toNat * (2 * (z + 2 ^ (11 - k).toNat) - 1) ≤ 6658 * y) : z = backZ d y (pre ++ [k]) := by
  unfold backZ at h ⊢
  rw [List.foldl_append, ← h]; simp only [List.foldl_cons, List.foldl_nil]; rw [if_neg hc]
@[irreducible] def backV (d y : Int) : Int := backZ d y (rangeKs 0 (12 - 0 : Int).toNat)
theorem pow_ok2 {d : Int} (b : Int) (h2 : d ≤ 13) : IntMulOk (2 ^ d.toNat) b := by
  have h := pow_le h2
  have h0 := pow_pos2 d.toNat
  exact IntMulOk.of_left (intBits_le_64 (by omega) (by omega))
theorem keptV_A {d x y : Int} (h : y = keptY d (2 ^ (d + 1).toNat * x.fmod 3329) (rangeKs 0 (d + 1 - 0).toNat)) (hc : y = 2 ^ d.toNat) : keptV d x = 0 := by
  unfold keptV
  rw [← h, if_pos hc]
theorem keptV_B {d x y : Int} (h : y = keptY d (2 ^ (d + 1).toNat * x.fmod 3329) (rangeKs 0 (d + 1 - 0).toNat)) (hc : y ≠ 2 ^ d.toNat) : keptV d x = y := by
  unfold keptV
  rw [← h, if_neg hc]
theorem backV_of {d y z : Int} (h : z = backZ d y (rangeKs 0 (12 - 0 : Int).toNat)) : backV d y = z := by
  unfold backV
  exact h.symm
local macro_rules | `(tactic| mul_fits) => `(tactic| with_reducible exact pow_ok2 _ (by assumption))
local macro_rules | `(tactic| walk_at "binaryOp Mult int int") => `(tactic| ((with_reducible refine mul_int ?_); (try dsimp only)))
local macro_rules | `(tactic| walk_at "binaryOp Add int int") => `(tactic| ((with_reducible refine add_int ?_); (try dsimp only)))
local macro_rules | `(tactic| walk_at "binaryOp Sub int int") => `(tactic| ((with_reducible refine sub_int ?_); (try dsimp only)))
def ConLK (V : Program) (w : World) (mean : ExcName → Option Value) (mg mb : Str → Option Value) : Prop :=
  ∀ (dp un : Nat) (gd : Option (List Code)) (cn : Str) (nm : List (Str × NameKind)) (ig ic : Bool) (mo : List (Str × Const)) (a : Addr) (ccd : Value) (cl : List (Str × Addr)) (outer : List Env) (A₀ : Around) (base h₀ : Heap) (L : Addr) (m : Str → Option Value) (news : List (Addr × Obj)) (s : Shared)
    (xv d : Int) (tx td : Tok) (Q E : Value → Shared → Prop),
    Below A₀ base outer h₀ → Fr h₀ L s.heap m → (hb02.heap_1 w.params).In h₀ → News h₀ L s.heap (news) →
    Top V (looseW V [Str.ofString "PolynomialRing", Str.ofString "PolynomialNTT"]) mean mg mb h₀ → dp + 6 < recursionLimit → un + 60 < cLine →
    1 ≤ d → d ≤ 13 →
    (∀ (t' : Tok) (h' : Heap) (tk' : Nat), Fr h₀ L h' m → News h₀ L h' news → Q (.int (keptV d xv) t') { s with heap := h', toks := tk' }) →
    wpAny (model Challenge.rw_yd0004_02.row.prog w) (ktrTop dp un gd cn (Sc nm ig ic mo) L a ccd cl outer) (call (.ref 438) [.int xv tx, .int d td]) Q E s
theorem conLK (V : Program) (w : World) (mean : ExcName → Option Value) (mg mb : Str → Option Value) : ConLK V w mean mg mb := by
  suffices h : (Challenge.rw_yd0004_02 = Challenge.rw_yd0004_02 ∧ hb02.heap_1 = hb02.heap_1) → ConLK V w mean mg mb from h ⟨rfl, rfl⟩
  k_fill
  intro _
  unfold ConLK
  intro dp un gd cn nm ig ic mo a ccd cl outer A₀ base h₀ L m news s xv d tx td Q E B F X N T hd hu hd1 hd2 hret
  have hMk : KstMark := kstMark
  k_with_none
  k_with "pyIter ref" => k_state_given ["d", "twice"] (fun d tw pre y => y = keptY d tw pre) "y"
  k_with "state" => exact keptY_nil _ _
  k_with "state" => exact keptY_A (by assumption) (by assumption)
  k_with "state" => exact keptY_B (by assumption) (by assumption)
  k_steps
  · rw [keptV_A (by assumption) (by assumption)] at hret
    exact hret _ _ _ (by assumption) (by assumption)
  · rw [keptV_B (by assumption) (by assumption)] at hret
    exact hret _ _ _ (by assumption) (by assumption)
def ConLB (V : Program) (w : World) (mean : ExcName → Option Value) (mg mb : Str → Option Value) : Prop :=
  ∀ (dp un : Nat) (gd : Option (List Code)) (cn : Str) (nm : List (Str × NameKind)) (ig ic : Bool) (mo : List (Str × Const)) (a : Addr) (ccd : Value) (cl : List (Str × Addr)) (outer : List Env) (A₀ : Around) (base h₀ : Heap) (L : Addr) (m : Str → Option Value) (news : List (Addr × Obj)) (s : Shared)
    (yv d : Int) (tx td : Tok) (Q E : Value → Shared → Prop),
    Below A₀ base outer h₀ → Fr h₀ L s.heap m → (hb02.heap_1 w.params).In h₀ → News h₀ L s.heap (news) →
    Top V (looseW V [Str.ofString "PolynomialRing", Str.ofString "PolynomialNTT"]) mean mg mb h₀ → dp + 6 < recursionLimit → un + 60 < cLine →
    1 ≤ d → d ≤ 13 →
    (∀ (t' : Tok) (h' : Heap) (tk' : Nat), Fr h₀ L h' m → News h₀ L h' news → Q (.int (backV d yv) t') { s with heap := h', toks := tk' }) →
    wpAny (model Challenge.rw_yd0004_02.row.prog w) (ktrTop dp un gd cn (Sc nm ig ic mo) L a ccd cl outer) (call (.ref 445) [.int yv tx, .int d td]) Q E s
theorem conLB (V : Program) (w : World) (mean : ExcName → Option Value) (mg mb : Str → Option Value) : ConLB V w mean mg mb := by
  suffices h : (Challenge.rw_yd0004_02 = Challenge.rw_yd0004_02 ∧ hb02.heap_1 = hb02.heap_1) → ConLB V w mean mg mb from h ⟨rfl, rfl⟩
  k_fill
  intro _
  unfold ConLB
  intro dp un gd cn nm ig ic mo a ccd cl outer A₀ base h₀ L m news s yv d tx td Q E B F X N T hd hu hd1 hd2 hret
  have hMk : KstMark := kstMark
  k_with_none
  k_with "pyIter ref" => k_state_given ["d", "y"] (fun d y pre z => z = backZ d y pre) "z"
  k_with "state" => exact backZ_nil _ _
  k_with "state" => exact backZ_A (by assumption) (by assumption)
  k_with "state" => exact backZ_B (by assumption) (by assumption)
  k_steps
  rw [backV_of (by assumption)] at hret
  exact hret _ _ _ (by assumption) (by assumption)
end

section
open PySem PySem.W PyProof.Rows PySem.Calls
local macro_rules | `(tactic| walk_at "none 0") => `(tactic| skip)
local macro_rules | `(tactic| walk_at "none 1") => `(tactic| skip)
local macro_rules | `(tactic| walk_at "none 2") => `(tactic| skip)
local macro_rules | `(tactic| walk_at "none 3") => `(tactic| skip)
local macro_rules | `(tactic| k_room) => `(tactic| ktr_room)
local macro_rules | `(tactic| k_units) => `(tactic| ktr_units)
local macro_rules | `(tactic| walk_at "getMethod ref") => `(tactic| (k_here; k_dflt (first
  | refine' method_inst ?k1 ?k2 ?k3 ?k4 ?k5 ?k6 ?k7 ?_; (case k1 => k_asm); (case k2 => k_asm); (case k3 => k_inst); (case k4 => k_is); (case k5 => k_is); (case k6 => k_is); (case k7 => k_get); k_whole
  | (refine' kmu_sm ?k1 ?k2 ?k4 ?k5 ?k6 ?k7 ?k8 ?k9 ?k10 ?k11 ?k12 ?k13 ?k14 ?_; (case k1 => k_asm); (case k2 => k_asm); (case k4 => k_inst); (case k5 => k_is); (case k6 => k_is); (case k7 => k_is); (case k8 => k_is); (case k9 => k_is); (case k10 => k_is); (case k11 => decide +kernel); (case k12 => k_get); (case k13 => k_is); (case k14 => k_handed); k_whole)); (try dsimp only)))
local macro_rules | `(tactic| k_all) => `(tactic| assumption)
local macro_rules | `(tactic| walk_at "call ref") => `(tactic| (k_here; (with_reducible show wpAny _ _ (call (Value.ref 312) [Value.ref _, Value.int _ _, Value.int _ _]) _ _ _); k_dflt (refine' conCE _ _ _ _ _ _ _ _ _ _ _ _ _ _ _ _ _ _ _ _ _ _ _ _ _ _ _ _ _ _ _ ?k1 ?k2 ?k3 ?k4 ?k5 ?kd ?ku ?km ?kn (fun t9 h9 tk9 F9 N9 => ?_); (case k1 => k_asm); (case k2 => k_asm); (case k3 => k_asm); (case k4 => k_asm); (case k5 => k_asm); (case km => assumption); (case kn => assumption); (case kd => first | exact Nat.le_of_ble_eq_true rfl | ktr_room); (case ku => ((have hcL9 := cLine_is); (simp only [units_under_make, units_in1, units_deeper, Around.mark_units, units_caller]); (try dsimp only [ktrTop]); omega)); (try dsimp only))))
local macro_rules | `(tactic| walk_at "call ref") => `(tactic| (k_here; (with_reducible show wpAny _ _ (call (Value.ref 319) [Value.ref _, Value.int _ _, Value.int _ _]) _ _ _); k_dflt (refine' conDE _ _ _ _ _ _ _ _ _ _ _ _ _ _ _ _ _ _ _ _ _ _ _ _ _ _ _ _ _ _ _ ?k1 ?k2 ?k3 ?k4 ?k5 ?kd ?ku ?km ?kn (fun t9 h9 tk9 F9 N9 => ?_); (case k1 => k_asm); (case k2 => k_asm); (case k3 => k_asm); (case k4 => k_asm); (case k5 => k_asm); (case km => assumption); (case kn => assumption); (case kd => first | exact Nat.le_of_ble_eq_true rfl | ktr_room); (case ku => ((have hcL9 := cLine_is); (simp only [units_under_make, units_in1, units_deeper, Around.mark_units, units_caller]); (try dsimp only [ktrTop]); omega)); (try dsimp only))))
theorem sub_c {α : Type} {a b c d e f : α} {l : List α} : ∀ p ∈ d :: e :: a :: f :: l, p ∈ a :: b :: c :: d :: e :: f :: l := fun p h => by
  simp only [List.mem_cons] at h ⊢
  rcases h with h | h | h | h | h
  · exact .inr (.inr (.inr (.inl h)))
  · exact .inr (.inr (.inr (.inr (.inl h))))
  · exact .inl h
  · exact .inr (.inr (.inr (.inr (.inr (.inl h)))))
  · exact .inr (.inr (.inr (.inr (.inr (.inr h)))))
def ConComp (V : Program) (w : World) (mean : ExcName → Option Value) (mg mb : Str → Option Value) : Prop :=
  ∀ (dp un : Nat) (gd : Option (List Code)) (cn : Str) (nm : List (Str × NameKind)) (ig ic : Bool) (mo : List (Str × Const)) (a : Addr) (ccd : Value) (cl : List (Str × Addr)) (outer : List Env) (A₀ : Around) (base h₀ : Heap) (L : Addr) (m : Str → Option Value) (news : List (Addr × Obj)) (s : Shared)
    (p dq C x : Addr) (t7 t8 : Tok) (ys : List Value) (c : Nat) (cs : List Int) (d : Int) (td : Tok) (Q E : Value → Shared → Prop),
    Below A₀ base outer h₀ → Fr h₀ L s.heap m → (hb02.heap_1 w.params).In h₀ → News h₀ L s.heap ((p, instObj 346 dq) :: (dq, polyD w t7 t8 x C) :: (C, W.listOf ys.toArray c) :: news) →
    Top V (looseW V [Str.ofString "PolynomialRing", Str.ofString "PolynomialNTT"]) mean mg mb h₀ → dp + 12 < recursionLimit → un + 100 < cLine →
    IntsAre ys cs → cs.length ≤ 1000 → 1 ≤ d → d ≤ 13 → p ≠ dq → C ≠ dq → (∀ q ∈ news, q.1 ≠ dq) →
    (∀ (D : Addr) (us : List Value) (c3 : Nat) (u2 : Tok) (h' : Heap) (tk' : Nat), IntsAre us (List.map (fun k => compV d k) cs) → Fr h₀ L h' m → LCg.Off1 D ((p, instObj 346 dq) :: (dq, polyD w t7 t8 x C) :: (C, W.listOf ys.toArray c) :: news) → News h₀ L h' ((p, instObj 346 dq) :: (dq, polyD w t7 u2 x D) :: (D, W.listOf us.toArray c3) :: (C, W.listOf ys.toArray c) :: news) → Q (.ref p) { s with heap := h', toks := tk' }) →
    wpAny (model Challenge.rw_yd0004_02.row.prog w) (ktrTop dp un gd cn (Sc nm ig ic mo) L a ccd cl outer) (call (.ref 324) [.ref p, .int d td]) Q E s
theorem conComp (V : Program) (w : World) (mean : ExcName → Option Value) (mg mb : Str → Option Value) : ConComp V w mean mg mb := by
  suffices h : (Challenge.rw_yd0004_02 = Challenge.rw_yd0004_02 ∧ hb02.heap_1 = hb02.heap_1) → ConComp V w mean mg mb from h ⟨rfl, rfl⟩
  k_fill
  intro _
  unfold ConComp
  intro dp un gd cn nm ig ic mo a ccd cl outer A₀ base h₀ L m news s p dq C x t7 t8 ys c cs d td Q E B F X N T hd hu hI hn hd1 hd2 hpq hCq hoff hret
  have hMk : KstMark := kstMark
  k_with_none
  k_steps
  exact hret _ _ _ _ _ _ (by assumption) (by assumption) (off_tail2 (by assumption)) (news_sub (by assumption) sub_c)
def ConDecomp (V : Program) (w : World) (mean : ExcName → Option Value) (mg mb : Str → Option Value) : Prop :=
  ∀ (dp un : Nat) (gd : Option (List Code)) (cn : Str) (nm : List (Str × NameKind)) (ig ic : Bool) (mo : List (Str × Const)) (a : Addr) (ccd : Value) (cl : List (Str × Addr)) (outer : List Env) (A₀ : Around) (base h₀ : Heap) (L : Addr) (m : Str → Option Value) (news : List (Addr × Obj)) (s : Shared)
    (p dq C x : Addr) (t7 t8 : Tok) (ys : List Value) (c : Nat) (cs : List Int) (d : Int) (td : Tok) (Q E : Value → Shared → Prop),
    Below A₀ base outer h₀ → Fr h₀ L s.heap m → (hb02.heap_1 w.params).In h₀ → News h₀ L s.heap ((p, instObj 346 dq) :: (dq, polyD w t7 t8 x C) :: (C, W.listOf ys.toArray c) :: news) →
    Top V (looseW V [Str.ofString "PolynomialRing", Str.ofString "PolynomialNTT"]) mean mg mb h₀ → dp + 12 < recursionLimit → un + 100 < cLine →
    IntsAre ys cs → cs.length ≤ 1000 → 1 ≤ d → d ≤ 13 → p ≠ dq → C ≠ dq → (∀ q ∈ news, q.1 ≠ dq) →
    (∀ (D : Addr) (us : List Value) (c3 : Nat) (u2 : Tok) (h' : Heap) (tk' : Nat), IntsAre us (List.map (fun k => decV d k) cs) → Fr h₀ L h' m → LCg.Off1 D ((p, instObj 346 dq) :: (dq, polyD w t7 t8 x C) :: (C, W.listOf ys.toArray c) :: news) → News h₀ L h' ((p, instObj 346 dq) :: (dq, polyD w t7 u2 x D) :: (D, W.listOf us.toArray c3) :: (C, W.listOf ys.toArray c) :: news) → Q (.ref p) { s with heap := h', toks := tk' }) →
    wpAny (model Challenge.rw_yd0004_02.row.prog w) (ktrTop dp un gd cn (Sc nm ig ic mo) L a ccd cl outer) (call (.ref 329) [.ref p, .int d td]) Q E s
theorem conDecomp (V : Program) (w : World) (mean : ExcName → Option Value) (mg mb : Str → Option Value) : ConDecomp V w mean mg mb := by
  suffices h : (Challenge.rw_yd0004_02 = Challenge.rw_yd0004_02 ∧ hb02.heap_1 = hb02.heap_1) → ConDecomp V w mean mg mb from h ⟨rfl, rfl⟩
  k_fill
  intro _
  unfold ConDecomp
  intro dp un gd cn nm ig ic mo a ccd cl outer A₀ base h₀ L m news s p dq C x t7 t8 ys c cs d td Q E B F X N T hd hu hI hn hd1 hd2 hpq hCq hoff hret
  have hMk : KstMark := kstMark
  k_with_none
  k_steps
  exact hret _ _ _ _ _ _ (by assumption) (by assumption) (off_tail2 (by assumption)) (news_sub (by assumption) sub_c)
end

section
open PySem PySem.W PyProof.Rows PySem.Calls PyProof.V PySem.Spec
/-- the state of the law's loop: the polynomial, the two lists, the cells -/
structure St02 where
  p : Addr
  dq : Addr
  C : Addr
  N : Addr
  E : Addr
  t7 : Tok
  t8 : Tok
  yv : List Value
  nv : List Value
  ev : List Value
  c1 : Nat
  c2 : Nat
  c3 : Nat
  ns : List Int
  es : List Int
  b : Int
  tb : Tok
  spot : Int
  ts : Tok
  o2 : Obj
  o3 : Obj
  o4 : Obj
  o5 : Obj
  o6 : Obj
  o7 : Obj
  v5 : Option Value
  v6 : Option Value
  v7 : Option Value
@[reducible] def Led02 (w : World) (L x dx : Addr) (n : Int) (t1 t2 t3 t4 t5 t6 : Tok) (zv fv : Value) (o1 : Obj) (c : St02) : List (Addr × Obj) :=
  [(c.p, instObj 346 c.dq), (c.dq, polyD w c.t7 c.t8 x c.C), (c.C, W.listOf c.yv.toArray c.c1), (x, instObj 282 dx), (dx, ringD w n t1 t2 t3 t4 t5 t6 zv fv), (c.E, W.listOf c.ev.toArray c.c3), (c.N, W.listOf c.nv.toArray c.c2),
    (L + 1 + 1 + 1 + 1 + 1 + 1 + 1, c.o7), (L + 1 + 1 + 1 + 1 + 1 + 1, c.o6), (L + 1 + 1 + 1 + 1 + 1, c.o5), (L + 1 + 1 + 1 + 1, c.o4), (L + 1 + 1 + 1, c.o3), (L + 1 + 1, c.o2), (L + 1, o1)]
@[reducible] def Ps02 (c : St02) : List (Str × Value) := [(Str.ofString "p", .ref c.p), (Str.ofString "budget", .int c.b c.tb)]
def OffA (a : Nat) (l : List Nat) : Prop := ∀ b ∈ l, b ≠ a
theorem offA_nil {a : Nat} : OffA a [] := fun _ h => nomatch h
theorem offA_cons {a b : Nat} {l : List Nat} (h : b ≠ a) (r : OffA a l) : OffA a (b :: l) := fun c hc => by
  rcases List.mem_cons.mp hc with rfl | hc
  · exact h
  · exact r c hc
theorem offA_ne {a b : Nat} {l : List Nat} (h : OffA a l) (hm : b ∈ l) : b ≠ a := h b hm
theorem offA_ne' {a b : Nat} {l : List Nat} (h : OffA a l) (hm : b ∈ l) : a ≠ b := Ne.symm (h b hm)
theorem off1_ne {D a : Addr} {o : Obj} {l : List (Addr × Obj)} (h : LCg.Off1 D l) (hm : (a, o) ∈ l) : a ≠ D := off1_of h _ hm
theorem off1_ne' {D a : Addr} {o : Obj} {l : List (Addr × Obj)} (h : LCg.Off1 D l) (hm : (a, o) ∈ l) : D ≠ a := Ne.symm (off1_of h _ hm)
theorem lt_ne {d a : Addr} {o : Obj} {l : List (Addr × Obj)} (h : AllLt d l) (hm : (a, o) ∈ l) : a ≠ d := Nat.ne_of_lt (kst_ltOf h _ hm)
theorem lt_ne' {d a : Addr} {o : Obj} {l : List (Addr × Obj)} (h : AllLt d l) (hm : (a, o) ∈ l) : d ≠ a := Ne.symm (lt_ne h hm)
theorem lt2_ne {d e a : Addr} {o : Obj} {l : List (Addr × Obj)} (h2 : @LT.lt Nat _ d e) (h : AllLt d l) (hm : (a, o) ∈ l) : a ≠ e := Nat.ne_of_lt (Nat.lt_trans (kst_ltOf h _ hm) h2)
theorem lt2_ne' {d e a : Addr} {o : Obj} {l : List (Addr × Obj)} (h2 : @LT.lt Nat _ d e) (h : AllLt d l) (hm : (a, o) ∈ l) : e ≠ a := Ne.symm (lt2_ne h2 h hm)
@[reducible] def cellsA (L : Nat) : List Nat := [L + 1, L + 1 + 1, L + 1 + 1 + 1, L + 1 + 1 + 1 + 1, L + 1 + 1 + 1 + 1 + 1, L + 1 + 1 + 1 + 1 + 1 + 1, L + 1 + 1 + 1 + 1 + 1 + 1 + 1]
structure Ord02 (L p dq C x dx N E : Nat) : Prop where
  ap : OffA p (cellsA L)
  aq : OffA dq (p :: C :: x :: dx :: N :: E :: cellsA L)
  aC : OffA C (cellsA L)
  ax : OffA x (cellsA L)
  ad : OffA dx (cellsA L)
  aN : OffA N (cellsA L)
  aE : OffA E (cellsA L)
def Bnd (ns es : List Int) (b : Int) : Prop := ∀ i : Nat, i < ns.length → ∃ k e : Int, ns.getD i 0 - es.getD i 0 = 3329 * k + e ∧ -b ≤ e ∧ e ≤ b
structure P02 (L x dx : Addr) (n : Int) (i : Nat) (c : St02) : Prop where
  hy : IntsAre c.yv c.ns
  hn : IntsAre c.nv c.ns
  he : IntsAre c.ev c.es
  ln : (c.ns.length : Int) = n
  le : (c.es.length : Int) = n
  d2 : c.o2.data = .cell (some (.ref c.N))
  d3 : c.o3.data = .cell (some (.ref c.E))
  d4 : c.o4.data = .cell (some (.int c.spot c.ts))
  d5 : c.o5.data = .cell c.v5
  d6 : c.o6.data = .cell c.v6
  d7 : c.o7.data = .cell c.v7
  s0 : 0 ≤ c.spot
  s1 : c.spot ≤ 7 + 7 * (i : Int)
  b0 : 0 ≤ c.b
  bd : Bnd c.ns c.es c.b
  od : Ord02 L c.p c.dq c.C x dx c.N c.E
theorem bnd_start (ns : List Int) : Bnd ns ns 0 := fun i _ => ⟨0, 0, by omega, by omega, by omega⟩
@[reducible] def stored02 : List Str := [Str.ofString "kind", Str.ofString "m", Str.ofString "spot", Str.ofString "row", Str.ofString "now", Str.ofString "exact", Str.ofString "d", Str.ofString "times"]
section
variable {prog : Program} {w : World} {A : Around} {E' : Value → Shared → Prop} {s : Shared} {env : Env} {h₀ : Heap} {z : Str} {body : List Stmt} {Q : Flow → Shared → Prop}
theorem loop02 {L r : Addr} {st n : Int} {tr ur vr : Tok} {x dx p dq C N E : Addr} {t1 t2 t3 t4 t5 t6 t7 t8 : Tok} {zv fv : Value} {yv nv ev : List Value} {c1 c3 : Nat} {ns : List Int} {spot : Int} {tb ts : Tok} {o1 o2 o3 o4 o5 o6 o7 : Obj} {v5 v6 v7 : Option Value} {m₀ : Str → Option Value} {q1 q2 q3 : Addr × Obj}
    (hL : env.locals = L) (hh : A.handled = none) (hr : IsRange s.heap r 0 (st.fmod 9) 1 tr ur vr) (F : Fr h₀ L s.heap m₀)
    (N' : News h₀ L s.heap [(p, instObj 346 dq), (dq, polyD w t7 t8 x C), (C, W.listOf yv.toArray c1), (x, instObj 282 dx), (dx, ringD w n t1 t2 t3 t4 t5 t6 zv fv), q1, q2, q3, (E, W.listOf ev.toArray c3), (N, LCg.lst nv),
      (L + 1 + 1 + 1 + 1 + 1 + 1 + 1, o7), (L + 1 + 1 + 1 + 1 + 1 + 1, o6), (L + 1 + 1 + 1 + 1 + 1, o5), (L + 1 + 1 + 1 + 1, o4), (L + 1 + 1 + 1, o3), (L + 1 + 1, o2), (L + 1, o1)])
    (hp : m₀ (Str.ofString "p") = some (.ref p)) (hb : m₀ (Str.ofString "budget") = some (.int 0 tb))
    (hy : IntsAre yv ns) (hn : IntsAre nv ns) (he : IntsAre ev ns) (ln : (ns.length : Int) = n)
    (d2 : o2.data = .cell (some (.ref N))) (d3 : o3.data = .cell (some (.ref E))) (d4 : o4.data = .cell (some (.int spot ts))) (d5 : o5.data = .cell v5) (d6 : o6.data = .cell v6) (d7 : o7.data = .cell v7)
    (s0 : 0 ≤ spot) (s1 : spot ≤ 7) (od : Ord02 L p dq C x dx N E)
    (turn : ∀ (c : St02) (i : Nat) (t : Tok) (u : Str → Option Value) (h : Heap) (tk : Nat) (own : List (Addr × Obj)), i < 9 → OwnOff own ((Led02 w L x dx n t1 t2 t3 t4 t5 t6 zv fv o1 c).map (·.1)) → P02 L x dx n i c →
      Fr h₀ L h (fun y => if y = z then some (.int (0 + (i : Int)) t) else if y = Str.ofString "p" then some (.ref c.p) else if y = Str.ofString "budget" then some (.int c.b c.tb) else if stored02.contains y then u y else m₀ y) →
      News h₀ L h (Led02 w L x dx n t1 t2 t3 t4 t5 t6 zv fv o1 c ++ own) →
      wpAny (model prog w) A (execs body env) (FreePost h₀ L (Led02 w L x dx n t1 t2 t3 t4 t5 t6 zv fv o1) Ps02 z stored02 m₀ (P02 L x dx n (i + 1)) own { s with heap := h, toks := tk } Q) E' { s with heap := h, toks := tk })
    (done : ∀ (c : St02) (u : Str → Option Value) (h : Heap) (tk : Nat), P02 L x dx n (st.fmod 9).toNat c →
      Fr h₀ L h (fun y => if y = z then u y else if y = Str.ofString "p" then some (.ref c.p) else if y = Str.ofString "budget" then some (.int c.b c.tb) else if stored02.contains y then u y else m₀ y) →
      News h₀ L h (Led02 w L x dx n t1 t2 t3 t4 t5 t6 zv fv o1 c) → Q .next { s with heap := h, toks := tk }) :
    wpAny (model prog w) A (pyIter (.ref r)) (fun it s₂ => LoopAtV prog w A h₀ env z body Q E' it s₂) E' s := by
  subst hL
  have h9 := fmod_lo st (n := 9) (by decide)
  have h8 := fmod_hi st (n := 9) (by decide)
  refine iter_free (n := (st.fmod 9).toNat) (m₀ := m₀) (Led02 w env.locals x dx n t1 t2 t3 t4 t5 t6 zv fv o1) Ps02 stored02 (P02 env.locals x dx n)
    { p := p, dq := dq, C := C, N := N, E := E, t7 := t7, t8 := t8, yv := yv, nv := nv, ev := ev, c1 := c1, c2 := nv.length, c3 := c3, ns := ns, es := ns, b := 0, tb := tb, spot := spot, ts := ts, o2 := o2, o3 := o3, o4 := o4, o5 := o5, o6 := o6, o7 := o7, v5 := v5, v6 := v6, v7 := v7 }
    hh hr (small_one (by omega) (by omega) (by omega) (by omega)) ?_ F ?_ ?_ ?_ ?_ ?_
  · have e : (st.fmod 9).toNat = (st.fmod 9 - 0).toNat := by omega
    rw [e]
    exact rangeSize_nat _ _
  · intro q hq
    refine N' q ?_
    simp only [List.mem_cons, List.mem_nil_iff, or_false] at hq ⊢
    rcases hq with h | h | h | h | h | h | h | h | h | h | h | h | h | h
    · exact .inl h
    · exact .inr (.inl h)
    · exact .inr (.inr (.inl h))
    · exact .inr (.inr (.inr (.inl h)))
    · exact .inr (.inr (.inr (.inr (.inl h))))
    · exact .inr (.inr (.inr (.inr (.inr (.inr (.inr (.inr (.inl h))))))))
    · exact .inr (.inr (.inr (.inr (.inr (.inr (.inr (.inr (.inr (.inl h)))))))))
    · exact .inr (.inr (.inr (.inr (.inr (.inr (.inr (.inr (.inr (.inr (.inl h))))))))))
    · exact .inr (.inr (.inr (.inr (.inr (.inr (.inr (.inr (.inr (.inr (.inr (.inl h)))))))))))
    · exact .inr (.inr (.inr (.inr (.inr (.inr (.inr (.inr (.inr (.inr (.inr (.inr (.inl h))))))))))))
    · exact .inr (.inr (.inr (.inr (.inr (.inr (.inr (.inr (.inr (.inr (.inr (.inr (.inr (.inl h)))))))))))))
    · exact .inr (.inr (.inr (.inr (.inr (.inr (.inr (.inr (.inr (.inr (.inr (.inr (.inr (.inr (.inl h))))))))))))))
    · exact .inr (.inr (.inr (.inr (.inr (.inr (.inr (.inr (.inr (.inr (.inr (.inr (.inr (.inr (.inr (.inl h)))))))))))))))
    · exact .inr (.inr (.inr (.inr (.inr (.inr (.inr (.inr (.inr (.inr (.inr (.inr (.inr (.inr (.inr (.inr h)))))))))))))))
  · intro q hq
    simp only [Ps02, List.mem_cons, List.mem_nil_iff, or_false] at hq
    rcases hq with rfl | rfl
    · exact hp
    · exact hb
  · exact { hy := hy, hn := hn, he := he, ln := ln, le := ln, d2 := d2, d3 := d3, d4 := d4, d5 := d5, d6 := d6, d7 := d7, s0 := s0, s1 := by dsimp only; omega, b0 := Int.le_refl 0, bd := bnd_start ns, od := od }
  · intro c i t u h tk own hi hoff hP F₁ N₁
    exact turn c i t u h tk own (by omega) hoff hP F₁ N₁
  · intro c u h tk hP F₁ N₁
    exact done c u h tk hP F₁ N₁
end
end

section
open PySem PySem.W PyProof.Rows PySem.Calls PyProof.V PySem.Spec
/-- an address apart from a loop's own objects -/
def OwnA (own : List (Addr × Obj)) (a : Nat) : Prop := ∀ q ∈ own, q.1 ≠ a
theorem ownA_off {own : List (Addr × Obj)} {adr : List Addr} {a : Addr} (h : OwnOff own adr) (hm : a ∈ adr) : OwnA own a := OwnOff.ne h hm
theorem ownA_off1 {own l : List (Addr × Obj)} {a : Addr} (h : LCg.Off1 a l) (hs : ∀ q ∈ own, q ∈ l) : OwnA own a := fun q hq => off1_of h q (hs q hq)
theorem ownA_lt {own l : List (Addr × Obj)} {a : Addr} (h : AllLt a l) (hs : ∀ q ∈ own, q ∈ l) : OwnA own a := fun q hq => Nat.ne_of_lt (kst_ltOf h q (hs q hq))
theorem ownA_lt2 {own l : List (Addr × Obj)} {d a : Addr} (h2 : @LT.lt Nat _ d a) (h : AllLt d l) (hs : ∀ q ∈ own, q ∈ l) : OwnA own a := fun q hq => Nat.ne_of_lt (Nat.lt_trans (kst_ltOf h q (hs q hq)) h2)
theorem end02 {h₀ h' : Heap} {w : World} {L x dx p dq C N E : Addr} {n : Int} {t1 t2 t3 t4 t5 t6 t7 t8 tb ts : Tok} {zv fv : Value} {o1 o2 o3 o4 o5 o6 o7 : Obj} {m₀ m' : Str → Option Value} {z : Str} {i tk' : Nat} {own news' : List (Addr × Obj)} {adr : List Addr} {s₁ : Shared} {Q : Flow → Shared → Prop}
    {yv nv ev : List Value} {c1 c2 c3 : Nat} {ns ns' es : List Int} {b spot : Int} {v5 v6 v7 : Option Value}
    (F : Fr h₀ L h' m') (N' : News h₀ L h' news') (hp : m' (Str.ofString "p") = some (.ref p)) (hb : m' (Str.ofString "budget") = some (.int b tb))
    (hrest : ∀ y, y ≠ z → y ≠ Str.ofString "p" → y ≠ Str.ofString "budget" → stored02.contains y = false → m' y = m₀ y)
    (m1 : (p, instObj 346 dq) ∈ news') (m2 : (dq, polyD w t7 t8 x C) ∈ news') (m3 : (C, W.listOf yv.toArray c1) ∈ news') (m4 : (x, instObj 282 dx) ∈ news') (m5 : (dx, ringD w n t1 t2 t3 t4 t5 t6 zv fv) ∈ news')
    (k7 : (L + 1 + 1 + 1 + 1 + 1 + 1 + 1, o7) ∈ news') (k6 : (L + 1 + 1 + 1 + 1 + 1 + 1, o6) ∈ news') (k5 : (L + 1 + 1 + 1 + 1 + 1, o5) ∈ news') (k4 : (L + 1 + 1 + 1 + 1, o4) ∈ news') (k3 : (L + 1 + 1 + 1, o3) ∈ news') (k2 : (L + 1 + 1, o2) ∈ news') (k1 : (L + 1, o1) ∈ news')
    (d2 : o2.data = .cell (some (.ref N))) (d3 : o3.data = .cell (some (.ref E))) (d4 : o4.data = .cell (some (.int spot ts))) (d5 : o5.data = .cell v5) (d6 : o6.data = .cell v6) (d7 : o7.data = .cell v7)
    (m6 : (N, W.listOf nv.toArray c2) ∈ news') (m7 : (E, W.listOf ev.toArray c3) ∈ news')
    (hoff : OwnOff own adr) (hx : x ∈ adr) (hdx : dx ∈ adr) (hcs : ∀ a ∈ cellsA L, a ∈ adr) (hs : ∀ q ∈ own, q ∈ news') (op : OwnA own p) (oq : OwnA own dq) (oC : OwnA own C) (oN : OwnA own N) (oE : OwnA own E)
    (hy : IntsAre yv ns) (hn : IntsAre nv ns') (heq : ns = ns') (he : IntsAre ev es) (ln : (ns.length : Int) = n) (le : (es.length : Int) = n) (s0 : 0 ≤ spot) (s1 : spot ≤ 7 + 7 * ((i + 1 : Nat) : Int)) (b0 : 0 ≤ b) (bd : Bnd ns es b)
    (od : Ord02 L p dq C x dx N E) :
    FreePost h₀ L (Led02 w L x dx n t1 t2 t3 t4 t5 t6 zv fv o1) Ps02 z stored02 m₀ (P02 L x dx n (i + 1)) own s₁ Q .next { s₁ with heap := h', toks := tk' } := by
  subst heq
  refine ⟨h', tk', m', news', { p := p, dq := dq, C := C, N := N, E := E, t7 := t7, t8 := t8, yv := yv, nv := nv, ev := ev, c1 := c1, c2 := c2, c3 := c3, ns := ns, es := es, b := b, tb := tb, spot := spot, ts := ts, o2 := o2, o3 := o3, o4 := o4, o5 := o5, o6 := o6, o7 := o7, v5 := v5, v6 := v6, v7 := v7 },
    rfl, F, N', ?_, hs, ?_, ?_, ?_, { hy := hy, hn := hn, he := he, ln := ln, le := le, d2 := d2, d3 := d3, d4 := d4, d5 := d5, d6 := d6, d7 := d7, s0 := s0, s1 := s1, b0 := b0, bd := bd, od := od }⟩
  · intro q hq
    simp only [Led02, List.mem_cons, List.mem_nil_iff, or_false] at hq
    rcases hq with rfl | rfl | rfl | rfl | rfl | rfl | rfl | rfl | rfl | rfl | rfl | rfl | rfl | rfl
    · exact m1
    · exact m2
    · exact m3
    · exact m4
    · exact m5
    · exact m7
    · exact m6
    · exact k7
    · exact k6
    · exact k5
    · exact k4
    · exact k3
    · exact k2
    · exact k1
  · intro q hq a ha
    simp only [Led02, List.map_cons, List.map_nil, List.mem_cons, List.mem_nil_iff, or_false] at ha
    have hc : ∀ a ∈ cellsA L, q.1 ≠ a := fun a ha => OwnOff.ne hoff (hcs a ha) q hq
    rcases ha with rfl | rfl | rfl | rfl | rfl | rfl | rfl | rfl | rfl | rfl | rfl | rfl | rfl | rfl
    · exact op q hq
    · exact oq q hq
    · exact oC q hq
    · exact OwnOff.ne hoff hx q hq
    · exact OwnOff.ne hoff hdx q hq
    · exact oE q hq
    · exact oN q hq
    · exact hc _ (by simp [cellsA])
    · exact hc _ (by simp [cellsA])
    · exact hc _ (by simp [cellsA])
    · exact hc _ (by simp [cellsA])
    · exact hc _ (by simp [cellsA])
    · exact hc _ (by simp [cellsA])
    · exact hc _ (by simp [cellsA])
  · intro q hq
    simp only [Ps02, List.mem_cons, List.mem_nil_iff, or_false] at hq
    rcases hq with rfl | rfl
    · exact hp
    · exact hb
  · intro y h1 h2 h3
    exact hrest y h1 (h2 (Str.ofString "p", .ref p) (by simp [Ps02])) (h2 (Str.ofString "budget", .int b tb) (by simp [Ps02])) h3
end

section
open PySem PySem.W PyProof.Rows PySem.Calls
theorem rangeKs_snoc (g : Nat) : rangeKs 0 (g + 1) = rangeKs 0 g ++ [(g : Int)] := by
  unfold rangeKs
  rw [List.range_succ, List.map_append]
  simp
/-- the greatest number within a bound, bit by bit -/
theorem greedy_to (c : Int) (T : Int → Prop) [DecidablePred T] (M : Int) (hT : ∀ y, 0 < y → (T y ↔ y ≤ M)) (h0 : 0 ≤ M) (h1 : M < 2 ^ (c + 1).toNat) (hc : 0 ≤ c) :
    ∀ j : Nat, (j : Int) ≤ c + 1 → ∀ y, y = (rangeKs 0 j).foldl (fun y k => if T (y + 2 ^ (c - k).toNat) then y + 2 ^ (c - k).toNat else y) 0 → 0 ≤ y ∧ y ≤ M ∧ M < y + 2 ^ (c + 1 - j).toNat
  | 0, _, y, h => by
    have e : y = 0 := h
    subst e
    refine ⟨by omega, h0, ?_⟩
    have e2 : (c + 1 - ((0 : Nat) : Int)).toNat = (c + 1).toNat := by omega
    rw [e2]; omega
  | j + 1, hj, y, h => by
    rw [rangeKs_snoc, List.foldl_append] at h
    simp only [List.foldl_cons, List.foldl_nil] at h
    generalize hz : (rangeKs 0 j).foldl (fun y k => if T (y + 2 ^ (c - k).toNat) then y + 2 ^ (c - k).toNat else y) 0 = z at h
    obtain ⟨a, b, d⟩ := greedy_to c T M hT h0 h1 hc j (by omega) z hz.symm
    have e1 : (c + 1 - (j : Int)).toNat = (c - (j : Int)).toNat + 1 := by omega
    have e2 : (c + 1 - ((j + 1 : Nat) : Int)).toNat = (c - (j : Int)).toNat := by omega
    have hp : (0 : Int) < 2 ^ (c - (j : Int)).toNat := Int.pow_pos (by decide)
    rw [e1, Int.pow_succ] at d
    rw [e2]
    generalize (2 : Int) ^ (c - (j : Int)).toNat = p at h d hp ⊢
    by_cases ht : T (z + p)
    · rw [if_pos ht] at h
      have := (hT (z + p) (by omega)).mp ht
      omega
    · rw [if_neg ht] at h
      have : ¬ z + p ≤ M := fun q => ht ((hT (z + p) (by omega)).mpr q)
      omega
theorem greedy {c : Int} (T : Int → Prop) [DecidablePred T] {M : Int} (hT : ∀ y, 0 < y → (T y ↔ y ≤ M)) (h0 : 0 ≤ M) (h1 : M < 2 ^ (c + 1).toNat) (hc : 0 ≤ c) :
    (rangeKs 0 (c + 1 - 0).toNat).foldl (fun y k => if T (y + 2 ^ (c - k).toNat) then y + 2 ^ (c - k).toNat else y) 0 = M := by
  obtain ⟨a, b, d⟩ := greedy_to c T M hT h0 h1 hc (c + 1 - 0).toNat (by omega) _ rfl
  have e : (c + 1 - (((c + 1 - 0).toNat : Nat) : Int)).toNat = 0 := by omega
  rw [e] at d
  simp only [Int.pow_zero] at d
  omega
theorem zip_eq (g : Int → Int → Int) {ns rs : List Int} {n : Int} (h1 : (ns.length : Int) = n) (h2 : (rs.length : Int) = n) : zipL g ns rs = List.map (fun k => g (ns.getD k.toNat 0) (rs.getD k.toNat 0)) (rangeKs 0 (n - 0).toNat) := by
  have e : (n - 0).toNat = ns.length := by omega
  have e2 : rs.length = ns.length := by omega
  rw [e]
  unfold zipL rangeKs
  apply List.ext_getElem
  · simp [e2]
  · intro i h3 h4
    have h5 : i < ns.length := by simp at h3; omega
    have h6 : i < rs.length := by omega
    simp [h5, h6]
theorem zipL_length (g : Int → Int → Int) {ns rs : List Int} (h : ns.length = rs.length) : (zipL g ns rs).length = ns.length := by
  unfold zipL
  rw [List.length_zipWith, h]; omega
theorem mapR_len {f : Int → Int} {n : Int} (h : 0 ≤ n) : ((List.map f (rangeKs 0 (n - 0).toNat)).length : Int) = n := by
  rw [List.length_map, rangeKs_length]; omega
theorem pow_succ_d {d : Int} (h : 0 ≤ d) : (2 : Int) ^ (d + 1).toNat = 2 * 2 ^ d.toNat := by
  have e : (d + 1).toNat = d.toNat + 1 := by omega
  rw [e, Int.pow_succ, Int.mul_comm]
/-- what the law keeps of one number is what compress keeps -/
theorem kept_comp {d : Int} (hd : 1 ≤ d) (x : Int) : keptV d x = compV d x := by
  have hr0 := fmod_lo x (n := 3329) (by decide)
  have hr1 := fmod_hi x (n := 3329) (by decide)
  have hx : x = 3329 * x.fdiv 3329 + x.fmod 3329 := by
    rw [Int.fdiv_eq_ediv_of_nonneg _ (by decide), Int.fmod_eq_emod_of_nonneg _ (by decide)]; omega
  unfold keptV compV keptY
  rw [pow_succ_d (by omega)]
  have hP : (1 : Int) < 2 ^ d.toNat := by
    have e : d.toNat = (d.toNat - 1) + 1 := by omega
    rw [e, Int.pow_succ]
    have : (0 : Int) < 2 ^ (d.toNat - 1) := Int.pow_pos (by decide)
    omega
  generalize hPe : (2 : Int) ^ d.toNat = P at hP ⊢
  generalize x.fmod 3329 = r at hx hr0 hr1 ⊢
  generalize x.fdiv 3329 = k at hx
  have hq0 : 0 ≤ P * r := Int.mul_nonneg (by omega) hr0
  have hq1 : P * r ≤ P * 3328 := Int.mul_le_mul_of_nonneg_left (by omega) (by omega)
  have hM := greedy (c := d) (fun y => 3329 * (2 * y - 1) < 2 * P * r) (M := (P * r + 1664) / 3329)
    (fun y _ => by rw [Int.mul_assoc]; omega) (by omega) (by rw [pow_succ_d (by omega), hPe]; omega) (by omega)
  rw [hM]
  have hxe : (1 * P * x + 1664).fdiv 3329 = (P * r + 1664) / 3329 + P * k := by
    rw [Int.fdiv_eq_ediv_of_nonneg _ (by decide), hx, Int.one_mul, Int.mul_add, Int.mul_left_comm]
    omega
  rw [hxe, Int.one_mul, Int.fmod_eq_emod_of_nonneg _ (by omega), Int.add_mul_emod_self_left]
  have hle : (P * r + 1664) / 3329 ≤ P := by omega
  by_cases he : (P * r + 1664) / 3329 = P
  · rw [if_pos he, he, Int.emod_self]
  · rw [if_neg he]
    exact (Int.emod_eq_of_lt (by omega) (by omega)).symm
theorem kept_range {d : Int} (hd : 1 ≤ d) (x : Int) : 0 ≤ keptV d x ∧ keptV d x < 2 ^ d.toNat := by
  rw [kept_comp hd]
  unfold compV
  have hP : (0 : Int) < 2 ^ d.toNat := Int.pow_pos (by decide)
  rw [Int.one_mul, Int.fmod_eq_emod_of_nonneg _ (by omega)]
  exact ⟨Int.emod_nonneg _ (by omega), Int.emod_lt_of_pos _ hP⟩
theorem pow_half {d : Int} (h : 1 ≤ d) : (2 : Int) ^ d.toNat = 2 * 2 ^ (d - 1).toNat := by
  have e : d.toNat = (d - 1).toNat + 1 := by omega
  rw [e, Int.pow_succ, Int.mul_comm]
theorem dec_eq {d y : Int} (hd : 1 ≤ d) : decV d y = (3329 * y + 2 ^ (d - 1).toNat) / (2 * 2 ^ (d - 1).toNat) := by
  have hH : (0 : Int) < 2 ^ (d - 1).toNat := Int.pow_pos (by decide)
  unfold decV
  rw [pow_half hd, Int.one_mul, Int.fdiv_eq_ediv_of_nonneg _ (by omega)]
theorem back_dec {d y : Int} (hd : 1 ≤ d) (h0 : 0 ≤ y) (h1 : y < 2 ^ d.toNat) : backV d y = decV d y := by
  rw [dec_eq hd]
  rw [pow_half hd] at h1
  unfold backV backZ
  rw [pow_half hd]
  have hH : (0 : Int) < 2 ^ (d - 1).toNat := Int.pow_pos (by decide)
  generalize (2 : Int) ^ (d - 1).toNat = H at hH h1 ⊢
  have hlt : (3329 * y + H) / (2 * H) < 3330 := Int.ediv_lt_of_lt_mul (by omega) (by omega)
  have h12 : (2 : Int) ^ ((11 : Int) + 1).toNat = 4096 := by decide
  refine greedy (c := 11) (fun z => 2 * H * (2 * z - 1) ≤ 6658 * y) (M := (3329 * y + H) / (2 * H)) (fun z _ => ?_) (Int.ediv_nonneg (by omega) (by omega)) (by rw [h12]; omega) (by decide)
  rw [Int.le_ediv_iff_mul_le (by omega), Int.mul_sub, Int.mul_one]
  have e : 2 * H * (2 * z) = 2 * (z * (2 * H)) := by ac_rfl
  rw [e]
  omega
theorem squeeze {d : Int} (hd : 1 ≤ d) (x : Int) : ∃ k e : Int, backV d (keptV d x) - x = 3329 * k + e ∧ -(((3329 : Int) + 2 ^ d.toNat).fdiv (2 ^ (d + 1).toNat)) ≤ e ∧ e ≤ ((3329 : Int) + 2 ^ d.toNat).fdiv (2 ^ (d + 1).toNat) := by
  obtain ⟨k0, k1⟩ := kept_range hd x
  rw [back_dec hd k0 k1, dec_eq hd]
  have hr0 := fmod_lo x (n := 3329) (by decide)
  have hr1 := fmod_hi x (n := 3329) (by decide)
  have hx : x = 3329 * x.fdiv 3329 + x.fmod 3329 := by
    rw [Int.fdiv_eq_ediv_of_nonneg _ (by decide), Int.fmod_eq_emod_of_nonneg _ (by decide)]; omega
  have hk : keptV d x = if (2 ^ d.toNat * x.fmod 3329 + 1664) / 3329 = 2 ^ d.toNat then 0 else (2 ^ d.toNat * x.fmod 3329 + 1664) / 3329 := by
    unfold keptV keptY
    have hP : (0 : Int) < 2 ^ d.toNat := Int.pow_pos (by decide)
    rw [pow_succ_d (by omega)]
    generalize hPe : (2 : Int) ^ d.toNat = P at hP ⊢
    generalize x.fmod 3329 = r at hr0 hr1 ⊢
    have hq0 : 0 ≤ P * r := Int.mul_nonneg (by omega) hr0
    have hq1 : P * r ≤ P * 3328 := Int.mul_le_mul_of_nonneg_left (by omega) (by omega)
    have hM := greedy (c := d) (fun y => 3329 * (2 * y - 1) < 2 * P * r) (M := (P * r + 1664) / 3329)
      (fun y _ => by rw [Int.mul_assoc]; omega) (by omega) (by rw [pow_succ_d (by omega), hPe]; omega) (by omega)
    rw [hM]
  rw [hk, pow_succ_d (by omega), pow_half hd]
  have hH : (0 : Int) < 2 ^ (d - 1).toNat := Int.pow_pos (by decide)
  generalize (2 : Int) ^ (d - 1).toNat = H at hH ⊢
  generalize x.fmod 3329 = r at hx hr0 hr1 ⊢
  generalize x.fdiv 3329 = k at hx
  rw [Int.fdiv_eq_ediv_of_nonneg _ (by omega)]
  generalize hM : (2 * H * r + 1664) / 3329 = M
  have hM1 : 3329 * M ≤ 2 * H * r + 1664 := by omega
  have hM2 : 2 * H * r + 1664 < 3329 * M + 3329 := by omega
  by_cases he : M = 2 * H
  · rw [if_pos he]
    refine ⟨-k - 1, 3329 - r, ?_, ?_, ?_⟩
    · have hz : (3329 * 0 + H) / (2 * H) = 0 := Int.ediv_eq_zero_of_lt (by omega) (by omega)
      rw [hz, hx]; omega
    · have : 0 ≤ (3329 + 2 * H) / (2 * (2 * H)) := Int.ediv_nonneg (by omega) (by omega)
      omega
    · rw [Int.le_ediv_iff_mul_le (by omega)]
      rw [he] at hM1
      have e : (3329 - r) * (2 * (2 * H)) = 2 * (3329 * (2 * H) - 2 * H * r) := by
        rw [Int.sub_mul, Int.mul_sub]
        have e1 : r * (2 * (2 * H)) = 2 * (2 * H * r) := by ac_rfl
        have e2 : 3329 * (2 * (2 * H)) = 2 * (3329 * (2 * H)) := by ac_rfl
        rw [e1, e2]
      rw [e]; omega
  · rw [if_neg he]
    generalize hZ : (3329 * M + H) / (2 * H) = Z
    have hz1 : Z * (2 * H) ≤ 3329 * M + H := by rw [← hZ]; exact Int.ediv_mul_le _ (by omega)
    have hz2 : 3329 * M + H < (Z + 1) * (2 * H) := by rw [← hZ]; exact Int.lt_ediv_add_one_mul_self _ (by omega)
    have er : r * (2 * H) = 2 * H * r := by ac_rfl
    rw [Int.add_mul, Int.one_mul] at hz2
    have e : (Z - r) * (2 * (2 * H)) = 2 * (Z * (2 * H) - 2 * H * r) := by
      rw [Int.sub_mul, Int.mul_sub]
      have e1 : r * (2 * (2 * H)) = 2 * (2 * H * r) := by ac_rfl
      have e2 : Z * (2 * (2 * H)) = 2 * (Z * (2 * H)) := by ac_rfl
      rw [e1, e2]
    refine ⟨-k, Z - r, by rw [hx]; omega, ?_, ?_⟩
    · have : -(Z - r) ≤ (3329 + 2 * H) / (2 * (2 * H)) := by
        rw [Int.le_ediv_iff_mul_le (by omega), Int.neg_mul, e]
        omega
      omega
    · rw [Int.le_ediv_iff_mul_le (by omega), e]
      omega
theorem getD_mapR (f : Int → Int) (m i : Nat) (h : i < m) : (List.map f (rangeKs 0 m)).getD i 0 = f (i : Int) := by
  unfold rangeKs
  simp [h]
theorem fmod_split (x : Int) : x.fmod 3329 = x - 3329 * (x / 3329) := by
  rw [Int.fmod_eq_emod_of_nonneg _ (by decide)]; omega
theorem bnd_add {ns es rs : List Int} {n b : Int} (h : Bnd ns es b) (ln : (ns.length : Int) = n) (lr : (rs.length : Int) = n) :
    Bnd (zipL (fun x y => (x + y).fmod 3329) ns rs) (List.map (fun k => es.getD k.toNat 0 + rs.getD k.toNat 0) (rangeKs 0 (n - 0).toNat)) b := by
  intro i hi
  rw [zip_eq _ ln lr] at hi ⊢
  rw [List.length_map, rangeKs_length] at hi
  obtain ⟨k, e, h1, h2, h3⟩ := h i (by omega)
  rw [getD_mapR _ _ _ hi, getD_mapR _ _ _ hi]
  have ei : ((i : Int)).toNat = i := by omega
  rw [ei, fmod_split]
  exact ⟨k - (ns.getD i 0 + rs.getD i 0) / 3329, e, by omega, h2, h3⟩
theorem bnd_sub {ns es rs : List Int} {n b : Int} (h : Bnd ns es b) (ln : (ns.length : Int) = n) (lr : (rs.length : Int) = n) :
    Bnd (zipL (fun x y => (x - y).fmod 3329) ns rs) (List.map (fun k => es.getD k.toNat 0 - rs.getD k.toNat 0) (rangeKs 0 (n - 0).toNat)) b := by
  intro i hi
  rw [zip_eq _ ln lr] at hi ⊢
  rw [List.length_map, rangeKs_length] at hi
  obtain ⟨k, e, h1, h2, h3⟩ := h i (by omega)
  rw [getD_mapR _ _ _ hi, getD_mapR _ _ _ hi]
  have ei : ((i : Int)).toNat = i := by omega
  rw [ei, fmod_split]
  exact ⟨k - (ns.getD i 0 - rs.getD i 0) / 3329, e, by omega, h2, h3⟩
theorem getD_map (f : Int → Int) (l : List Int) (i : Nat) (h : i < l.length) : (List.map f l).getD i 0 = f (l.getD i 0) := by
  simp [h]
theorem bnd_map {ns es : List Int} {b b' : Int} {f g : Int → Int} (h : Bnd ns es b) (hl : es.length = ns.length)
    (hfg : ∀ x y k e : Int, x - y = 3329 * k + e → -b ≤ e → e ≤ b → ∃ k' e' : Int, f x - g y = 3329 * k' + e' ∧ -b' ≤ e' ∧ e' ≤ b') : Bnd (List.map f ns) (List.map g es) b' := by
  intro i hi
  rw [List.length_map] at hi
  obtain ⟨k, e, h1, h2, h3⟩ := h i hi
  rw [getD_map _ _ _ hi, getD_map _ _ _ (by omega)]
  exact hfg _ _ k e h1 h2 h3
theorem bnd_neg {ns es : List Int} {b : Int} (h : Bnd ns es b) (hl : es.length = ns.length) : Bnd (List.map (fun c => (-c).fmod 3329) ns) (List.map (fun c => 0 - c) es) b :=
  bnd_map h hl fun x y k e h1 h2 h3 => ⟨-k - (-x) / 3329, -e, by rw [fmod_split]; omega, by omega, by omega⟩
theorem bnd_mul {ns es : List Int} {b t : Int} (h : Bnd ns es b) (hl : es.length = ns.length) : Bnd (List.map (fun c => (c * t).fmod 3329) ns) (List.map (fun c => c * t) es) (b * max t (0 - t)) :=
  bnd_map h hl fun x y k e h1 h2 h3 => by
    refine ⟨k * t - (x * t) / 3329, e * t, ?_, ?_, ?_⟩
    · rw [fmod_split]
      have hx : x * t - y * t = 3329 * (k * t) + e * t := by rw [← Int.sub_mul, h1, Int.add_mul, Int.mul_assoc]
      omega
    · rcases Int.le_total 0 t with ht | ht
      · rw [Int.max_eq_left (by omega), ← Int.neg_mul]
        exact Int.mul_le_mul_of_nonneg_right h2 ht
      · rw [Int.max_eq_right (by omega)]
        have hh : e * (0 - t) ≤ b * (0 - t) := Int.mul_le_mul_of_nonneg_right h3 (by omega)
        have e1 : e * (0 - t) = -(e * t) := by rw [Int.zero_sub, Int.mul_neg]
        omega
    · rcases Int.le_total 0 t with ht | ht
      · rw [Int.max_eq_left (by omega)]
        exact Int.mul_le_mul_of_nonneg_right h3 ht
      · rw [Int.max_eq_right (by omega)]
        have hh : (-b) * (0 - t) ≤ e * (0 - t) := Int.mul_le_mul_of_nonneg_right h2 (by omega)
        have e1 : e * (0 - t) = -(e * t) := by rw [Int.zero_sub, Int.mul_neg]
        have e2 : (-b) * (0 - t) = -(b * (0 - t)) := by rw [Int.neg_mul]
        omega
theorem bnd_squeeze {ns es : List Int} {b d : Int} (hd : 1 ≤ d) (h : Bnd ns es b) (hl : es.length = ns.length) :
    Bnd (List.map (fun k => backV d k) (List.map (fun k => keptV d k) ns)) es (b + ((3329 : Int) + 2 ^ d.toNat).fdiv (2 ^ (d + 1).toNat)) := by
  have e : es = List.map (fun c => c) es := by simp
  rw [e, List.map_map]
  refine bnd_map (f := fun c => backV d (keptV d c)) h hl fun x y k e h1 h2 h3 => ?_
  obtain ⟨k', e', g1, g2, g3⟩ := squeeze hd x
  exact ⟨k + k', e + e', by omega, by omega, by omega⟩
theorem comp_list {d : Int} (hd : 1 ≤ d) (ns : List Int) : List.map (fun k => compV d k) ns = List.map (fun k => keptV d k) ns :=
  List.map_congr_left fun x _ => (kept_comp hd x).symm
theorem dec_list {d : Int} (hd : 1 ≤ d) (ns : List Int) : List.map (fun k => decV d k) (List.map (fun k => keptV d k) ns) = List.map (fun k => backV d k) (List.map (fun k => keptV d k) ns) := by
  rw [List.map_map, List.map_map]
  exact List.map_congr_left fun x _ => (back_dec hd (kept_range hd x).1 (kept_range hd x).2).symm
/-- the last loop's test cannot fail -/
theorem no_fail {ns es : List Int} {b : Int} (h : Bnd ns es b) {i : Nat} (hi : i < ns.length) (h1 : b < (ns.getD i 0 - es.getD i 0).fmod 3329) (h2 : b < 3329 - (ns.getD i 0 - es.getD i 0).fmod 3329) : False := by
  obtain ⟨k, e, g1, g2, g3⟩ := h i hi
  rw [fmod_split] at h1 h2
  rw [g1] at h1 h2
  omega
end

section
open PySem PySem.W PyProof.Rows PySem.Calls PyProof.V PySem.Spec
section
variable {prog : Program} {w : World} {A : Around} {E' : Value → Shared → Prop} {s : Shared} {env : Env} {h₀ : Heap} {z : Str} {body : List Stmt} {Q : Flow → Shared → Prop}
/-- the law's last loop: it keeps nothing -/
theorem loop02b {L r : Addr} {n : Int} {tr ur vr : Tok} {m₀ : Str → Option Value} {led : List (Addr × Obj)}
    (hL : env.locals = L) (hh : A.handled = none) (hr : IsRange s.heap r 0 n 1 tr ur vr) (h0 : 0 ≤ n) (h1 : n ≤ 1000) (F : Fr h₀ L s.heap m₀) (N' : News h₀ L s.heap led)
    (turn : ∀ (i : Nat) (t : Tok) (u : Str → Option Value) (h : Heap) (tk : Nat) (own : List (Addr × Obj)), (i : Int) < n → OwnOff own (led.map (·.1)) →
      Fr h₀ L h (fun y => if y = z then some (.int (0 + (i : Int)) t) else if [Str.ofString "away"].contains y then u y else m₀ y) →
      News h₀ L h (led ++ own) →
      wpAny (model prog w) A (execs body env) (FreePost h₀ L (fun _ : Unit => led) (fun _ => []) z [Str.ofString "away"] m₀ (fun _ => True) own { s with heap := h, toks := tk } Q) E' { s with heap := h, toks := tk })
    (done : ∀ (u : Str → Option Value) (h : Heap) (tk : Nat),
      Fr h₀ L h (fun y => if y = z then u y else if [Str.ofString "away"].contains y then u y else m₀ y) →
      News h₀ L h led → Q .next { s with heap := h, toks := tk }) :
    wpAny (model prog w) A (pyIter (.ref r)) (fun it s₂ => LoopAtV prog w A h₀ env z body Q E' it s₂) E' s := by
  subst hL
  refine iter_free (n := n.toNat) (m₀ := m₀) (fun _ : Unit => led) (fun _ => []) [Str.ofString "away"] (fun _ _ => True) () hh hr (small_one (by omega) (by omega) (by omega) (by omega)) ?_ F N' ?_ trivial ?_ ?_
  · have e : n.toNat = (n - 0).toNat := by omega
    rw [e]
    exact rangeSize_nat _ _
  · intro q hq
    exact nomatch hq
  · intro c i t u h tk own hi hoff hP F₁ N₁
    exact turn i t u h tk own (by omega) hoff F₁ N₁
  · intro c u h tk hP F₁ N₁
    exact done u h tk F₁ N₁
end
theorem end02b {h₀ h' : Heap} {L : Addr} {m₀ m' : Str → Option Value} {z : Str} {tk' : Nat} {led own news' : List (Addr × Obj)} {s₁ : Shared} {Q : Flow → Shared → Prop}
    (F : Fr h₀ L h' m') (N' : News h₀ L h' news') (hs : ∀ q ∈ led ++ own, q ∈ news') (hoff : OwnOff own (led.map (·.1)))
    (hrest : ∀ y, y ≠ z → y ≠ Str.ofString "away" → m' y = m₀ y) :
    FreePost h₀ L (fun _ : Unit => led) (fun _ => []) z [Str.ofString "away"] m₀ (fun _ => True) own s₁ Q .next { s₁ with heap := h', toks := tk' } :=
  ⟨h', tk', m', news', (), rfl, F, N', fun q hq => hs q (List.mem_append.mpr (.inl hq)), fun q hq => hs q (List.mem_append.mpr (.inr hq)), hoff, (fun q hq => nomatch hq),
    fun y h1 _ h3 => hrest y h1 (fun e => by subst e; exact absurd h3 (by decide)), trivial⟩
theorem lp_lo (a : Int) : 0 ≤ 1 + a.fmod 5 := by
  have h := fmod_lo a (n := 5) (by decide)
  omega
theorem it2_lo (i : Nat) : 0 ≤ 0 + (i : Int) := by omega
theorem it2_hi {i : Nat} {n : Int} {l : List Int} (hi : (i : Int) < n) (hl : (l.length : Int) = n) : 0 + (i : Int) < (l.length : Int) := by omega
theorem it2_fit {i : Nat} {a : Int} (hi : (i : Int) < 1 + a.fmod 5) : 0 + (i : Int) < 2 ^ 63 := by
  have h := fmod_hi a (n := 5) (by decide)
  omega
theorem no_fail2 {ns es : List Int} {b n : Int} {i : Nat} (h : Bnd ns es b) (ln : (ns.length : Int) = n) (hi : (i : Int) < n)
    (h1 : (ns.getD (0 + (i : Int)).toNat 0 - es.getD (0 + (i : Int)).toNat 0).fmod 3329 > b) (h2 : 3329 - (ns.getD (0 + (i : Int)).toNat 0 - es.getD (0 + (i : Int)).toNat 0).fmod 3329 > b) : False := by
  have e : (0 + (i : Int)).toNat = i := by omega
  rw [e] at h1 h2
  exact no_fail h (by omega) h1 h2
end

section
open PySem PySem.W PyProof.Rows PySem.Calls PyProof.V PySem.Spec
theorem nlen (f : Int → Int) (a : Int) : ((List.map f (rangeKs 0 (1 + a.fmod 5 - 0).toNat)).length : Int) = 1 + a.fmod 5 := by
  have h := fmod_lo a (n := 5) (by decide)
  rw [List.length_map, rangeKs_length]; omega
theorem nle (a : Int) : 1 + a.fmod 5 ≤ 1000 := by
  have h := fmod_hi a (n := 5) (by decide)
  omega
theorem tm_lo (a : Int) : -1000 ≤ a.fmod 7 - 3 := by
  have h := fmod_lo a (n := 7) (by decide)
  omega
theorem tm_hi (a : Int) : a.fmod 7 - 3 ≤ 1000 := by
  have h := fmod_hi a (n := 7) (by decide)
  omega
theorem d_lo (a : Int) : 1 ≤ 1 + a.fmod 13 := by
  have h := fmod_lo a (n := 13) (by decide)
  omega
theorem d_hi (a : Int) : 1 + a.fmod 13 ≤ 13 := by
  have h := fmod_hi a (n := 13) (by decide)
  omega
/-- the wrong ways of the law: the two lists cannot differ -/
theorem absAdd {ns : List Int} {f : Int → Int} {a : Int} (h : ¬ zipL (fun x y => (x + y).fmod 3329) ns (List.map f (rangeKs 0 (1 + a.fmod 5 - 0).toNat)) = List.map (fun k => (ns.getD k.toNat 0 + (List.map f (rangeKs 0 (1 + a.fmod 5 - 0).toNat)).getD k.toNat 0).fmod 3329) (rangeKs 0 (1 + a.fmod 5 - 0).toNat)) (ln : (ns.length : Int) = 1 + a.fmod 5) : False :=
  h (zip_eq (fun x y => (x + y).fmod 3329) ln (nlen _ _))
theorem absSub {ns : List Int} {f : Int → Int} {a : Int} (h : ¬ zipL (fun x y => (x - y).fmod 3329) ns (List.map f (rangeKs 0 (1 + a.fmod 5 - 0).toNat)) = List.map (fun k => (ns.getD k.toNat 0 - (List.map f (rangeKs 0 (1 + a.fmod 5 - 0).toNat)).getD k.toNat 0).fmod 3329) (rangeKs 0 (1 + a.fmod 5 - 0).toNat)) (ln : (ns.length : Int) = 1 + a.fmod 5) : False :=
  h (zip_eq (fun x y => (x - y).fmod 3329) ln (nlen _ _))
theorem absComp {ns : List Int} {a : Int} (h : ¬ List.map (fun k => compV (1 + a.fmod 13) k) ns = List.map (fun k => keptV (1 + a.fmod 13) k) ns) : False := h (comp_list (d_lo a) ns)
theorem absDec {ns : List Int} {a : Int} (h : ¬ List.map (fun k => decV (1 + a.fmod 13) k) (List.map (fun k => compV (1 + a.fmod 13) k) ns) = List.map (fun k => backV (1 + a.fmod 13) k) (List.map (fun k => keptV (1 + a.fmod 13) k) ns)) : False := by
  refine h ?_
  rw [comp_list (d_lo a)]
  exact dec_list (d_lo a) ns
theorem absNeg {ns : List Int} (h : ¬ List.map (fun c => (-c).fmod 3329) ns = List.map (fun k => (0 - k).fmod 3329) ns) : False := h (List.map_congr_left fun x _ => by rw [Int.zero_sub])
theorem zlenE {g : Int → Int → Int} {ns rs : List Int} {n : Int} (h1 : (ns.length : Int) = n) (h2 : (rs.length : Int) = n) : ((zipL g ns rs).length : Int) = n := by
  rw [zipL_length g (by omega)]
  exact h1
theorem lenM {l : List Int} {f : Int → Int} {n : Int} (h : (l.length : Int) = n) : ((List.map f l).length : Int) = n := by
  rw [List.length_map]; exact h
theorem bnd_squeeze2 {ns es : List Int} {b d n : Int} (hd : 1 ≤ d) (h : Bnd ns es b) (ln : (ns.length : Int) = n) (le : (es.length : Int) = n) :
    Bnd (List.map (fun k => decV d k) (List.map (fun k => compV d k) ns)) es (b + ((3329 : Int) + 2 ^ d.toNat).fdiv (2 ^ (d + 1).toNat)) := by
  rw [comp_list hd, dec_list hd]
  exact bnd_squeeze hd h (by omega)
theorem bnd_neg2 {ns es : List Int} {b n : Int} (h : Bnd ns es b) (ln : (ns.length : Int) = n) (le : (es.length : Int) = n) : Bnd (List.map (fun c => (-c).fmod 3329) ns) (List.map (fun c => 0 - c) es) b := bnd_neg h (by omega)
theorem max_if (t : Int) : max t (0 - t) = if 0 - t > t then 0 - t else t := by
  split <;> omega
theorem bnd_mul2 {ns es : List Int} {b t n : Int} (h : Bnd ns es b) (ln : (ns.length : Int) = n) (le : (es.length : Int) = n) : Bnd (List.map (fun c => (c * t).fmod 3329) ns) (List.map (fun c => c * t) es) (b * if 0 - t > t then 0 - t else t) := by
  rw [← max_if]
  exact bnd_mul h (by omega)
theorem b0_mul {b t : Int} (h : 0 ≤ b) : 0 ≤ b * if 0 - t > t then 0 - t else t := Int.mul_nonneg h (by split <;> omega)
theorem b0_sq {b d : Int} (h : 0 ≤ b) : 0 ≤ b + ((3329 : Int) + 2 ^ d.toNat).fdiv (2 ^ (d + 1).toNat) := by
  have h1 : (0 : Int) < 2 ^ d.toNat := Int.pow_pos (by decide)
  have h2 : (0 : Int) < 2 ^ (d + 1).toNat := Int.pow_pos (by decide)
  rw [Int.fdiv_eq_ediv_of_nonneg _ (by omega)]
  have := Int.ediv_nonneg (a := (3329 : Int) + 2 ^ d.toNat) (b := 2 ^ (d + 1).toNat) (by omega) (by omega)
  omega
theorem s0_a {s a : Int} (h : 0 ≤ s) : 0 ≤ s + 2 + (1 + a.fmod 5) := by
  have h1 := fmod_lo a (n := 5) (by decide)
  omega
theorem s0_b {s : Int} (h : 0 ≤ s) : 0 ≤ s + 2 := by omega
theorem s1_a {s a : Int} {i : Nat} (h : s ≤ 7 + 7 * (i : Int)) : s + 2 + (1 + a.fmod 5) ≤ 7 + 7 * ((i + 1 : Nat) : Int) := by
  have h1 := fmod_hi a (n := 5) (by decide)
  omega
theorem s1_b {s : Int} {i : Nat} (h : s ≤ 7 + 7 * (i : Int)) : s + 2 ≤ 7 + 7 * ((i + 1 : Nat) : Int) := by omega
theorem not_stored {y : Str} (h : stored02.contains y = false) : y ≠ Str.ofString "kind" ∧ y ≠ Str.ofString "m" ∧ y ≠ Str.ofString "spot" ∧ y ≠ Str.ofString "row" ∧ y ≠ Str.ofString "now" ∧ y ≠ Str.ofString "exact" ∧ y ≠ Str.ofString "d" ∧ y ≠ Str.ofString "times" := by
  refine ⟨?_, ?_, ?_, ?_, ?_, ?_, ?_, ?_⟩ <;> (rintro rfl; exact absurd h (by decide))
end

section
open PySem PySem.W PyProof.Rows PySem.Calls
theorem idx2_lo {k : Int} (h : 0 ≤ k) : 0 ≤ 2 + k := by omega
theorem idx1_lo {s : Int} (h : 0 ≤ s) : 0 ≤ s + 1 := by omega
theorem idx3_lo {s k : Int} (h : 0 ≤ s) (h2 : 0 ≤ k) : 0 ≤ s + 2 + k := by omega
theorem idx0_hi {s : Int} {i : Nat} (h : s ≤ 7 + 7 * (i : Int)) (hi : i < 9) : s < 1000 := by omega
theorem idx1_hi {s : Int} {i : Nat} (h : s ≤ 7 + 7 * (i : Int)) (hi : i < 9) : s + 1 < 1000 := by omega
theorem idx3_hi {s k a : Int} {i : Nat} (hk : k < 0 + ((1 + a.fmod 5 - 0 : Int).toNat : Int)) (h : s ≤ 7 + 7 * (i : Int)) (hi : i < 9) : s + 2 + k < 1000 := by
  have h1 := fmod_hi a (n := 5) (by decide)
  have h2 := fmod_lo a (n := 5) (by decide)
  omega
theorem idx2_hi {k a : Int} (h : k < 0 + ((1 + a.fmod 5 - 0 : Int).toNat : Int)) : 2 + k < 1000 := by
  have h1 := fmod_hi a (n := 5) (by decide)
  have h2 := fmod_lo a (n := 5) (by decide)
  omega
local macro_rules | `(tactic| walk_at "getMethod ref") => `(tactic| (k_here; k_dflt (first
  | refine' method_inst ?k1 ?k2 ?k3 ?k4 ?k5 ?k6 ?k7 ?_; (case k1 => k_asm); (case k2 => k_asm); (case k3 => k_inst); (case k4 => k_is); (case k5 => k_is); (case k6 => k_is); (case k7 => k_get); k_whole
  | (refine' kmu_sm ?k1 ?k2 ?k4 ?k5 ?k6 ?k7 ?k8 ?k9 ?k10 ?k11 ?k12 ?k13 ?k14 ?_; (case k1 => k_asm); (case k2 => k_asm); (case k4 => k_inst); (case k5 => k_is); (case k6 => k_is); (case k7 => k_is); (case k8 => k_is); (case k9 => k_is); (case k10 => k_is); (case k11 => decide +kernel); (case k12 => k_get); (case k13 => k_is); (case k14 => k_handed); k_whole)); (try dsimp only)))
local macro_rules | `(tactic| k_in) => `(tactic| (refine' Frag.In.keeps ?kia (Fr.keep ?kib); (case kib => with_reducible assumption); (case kia => with_reducible assumption)))
local macro_rules | `(tactic| walk_at "callWith ref") => `(tactic| (k_here; (with_reducible show wpAny _ _ (callWith _ (Value.ref _) _ (backTo _ (starEach [] _)) []) _ _ _); (refine' callWith_K0 ?k1 ?k2 ?_; (case k1 => k_in); (case k2 => k_is); k_whole); (try dsimp only [List.nil_append, List.append_nil, List.cons_append])))
local macro_rules | `(tactic| walk_at "call ref") => `(tactic| (k_here; (with_reducible show wpAny _ _ (call (Value.ref 431) [Value.ref _, Value.int _ _]) _ _ _); k_dflt (refine' conLawAt _ _ _ _ _ _ _ _ _ _ _ _ _ _ _ _ _ _ _ _ _ _ _ _ _ _ _ _ ?k1 ?k2 ?k3 ?k4 ?k5 ?kK ?k6 ?k7 ?k8 ?k9 ?k10 ?kd ?ku ?_; (case k1 => k_asm); (case k2 => k_asm); (case k3 => k_asm); (case k4 => k_asm); (case k5 => k_asm); (case kK => first | exact rfl | assumption); (case k6 => k_asm); (case k7 => l_ints); (case k8 => l_fit); (case k9 => first | decide | with_reducible assumption | (with_reducible exact idx2_lo (by assumption)) | (with_reducible exact idx1_lo (by assumption)) | (with_reducible exact idx3_lo (by assumption) (by assumption))); (case k10 => first | decide | (with_reducible exact idx2_hi (by assumption)) | (with_reducible exact idx0_hi (by assumption) (by assumption)) | (with_reducible exact idx1_hi (by assumption) (by assumption)) | (with_reducible exact idx3_hi (by assumption) (by assumption) (by assumption))); (case kd => first | exact Nat.le_of_ble_eq_true rfl | ktr_room); (case ku => first | exact Nat.le_of_ble_eq_true rfl | ktr_units); k_whole; intro t9 h9 tk9 F9 N9; (try dsimp only))))
local macro_rules | `(tactic| walk_at "call ref") => `(tactic| (k_here; (with_reducible show wpAny _ _ (call (Value.ref _) [Value.ref _]) _ _ _); k_dflt (refine' conMk _ _ _ _ _ _ _ _ _ _ _ _ _ _ _ _ _ _ _ _ _ _ _ _ _ _ _ _ _ _ _ _ _ _ _ _ _ _ _ _ _ ?k1 ?k2 ?k3 ?k4 ?k5 ?kd ?ku ?kI ?kn ?km (fun p9 dp9 a9 b9 h9 tk9 F9 l9 l9' N9 => ?_); (case k1 => k_asm); (case k2 => k_asm); (case k3 => k_asm); (case k4 => exact news_pick3 (by k_asm) (by k_mem) (by k_mem) (by k_mem)); (case k5 => k_asm); (case kI => assumption); (case kn => first | assumption | exact nlen _ _ | (rw [List.length_map]; assumption)); (case km => first | assumption | exact nle _ | omega); (case kd => first | exact Nat.le_of_ble_eq_true rfl | ktr_room); (case ku => ((have hcL9 := cLine_is); (simp only [units_under_make, units_in1, units_deeper, Around.mark_units, units_caller]); (try dsimp only [ktrTop]); omega)); (try dsimp only)); (try k_lt2 l9')))
local macro_rules | `(tactic| walk_at "call ref") => `(tactic| (k_here; (with_reducible show wpAny _ _ (call (Value.ref 282) []) _ _ _); k_dflt (refine' conRing _ _ _ _ _ _ _ _ _ _ _ _ _ _ _ _ _ _ _ _ _ _ _ _ _ _ ?k1 ?k2 ?k3 ?k4 ?k5 ?kd ?ku (fun x9 dx9 a9 b9 c9 d9 e9 f9 zv9 fv9 h9 tk9 F9 l1 l2 N9 => ?_); (case k1 => k_asm); (case k2 => k_asm); (case k3 => k_asm); (case k4 => k_asm); (case k5 => k_asm); (case kd => first | exact Nat.le_of_ble_eq_true rfl | ktr_room); (case ku => first | exact Nat.le_of_ble_eq_true rfl | ktr_units); (try dsimp only)); (try k_lt l1); (try k_lt2 l2)))
theorem news_pick8 {h₀ : Heap} {L : Addr} {h : Heap} {l : List (Addr × Obj)} {a b c d e f g k : Addr × Obj} (N : News h₀ L h l) (ha : a ∈ l) (hb : b ∈ l) (hc : c ∈ l) (hd : d ∈ l) (he : e ∈ l) (hf : f ∈ l) (hg : g ∈ l) (hk : k ∈ l) : News h₀ L h (a :: b :: c :: d :: e :: f :: g :: k :: l) := fun p hp => by
  simp only [List.mem_cons] at hp
  rcases hp with rfl | rfl | rfl | rfl | rfl | rfl | rfl | rfl | hp
  · exact N _ ha
  · exact N _ hb
  · exact N _ hc
  · exact N _ hd
  · exact N _ he
  · exact N _ hf
  · exact N _ hg
  · exact N _ hk
  · exact N _ hp
theorem news_pick5 {h₀ : Heap} {L : Addr} {h : Heap} {l : List (Addr × Obj)} {a b c d e : Addr × Obj} (N : News h₀ L h l) (ha : a ∈ l) (hb : b ∈ l) (hc : c ∈ l) (hd : d ∈ l) (he : e ∈ l) : News h₀ L h (a :: b :: c :: d :: e :: l) := fun p hp => by
  simp only [List.mem_cons] at hp
  rcases hp with rfl | rfl | rfl | rfl | rfl | hp
  · exact N _ ha
  · exact N _ hb
  · exact N _ hc
  · exact N _ hd
  · exact N _ he
  · exact N _ hp
theorem news_rot {h₀ : Heap} {L : Addr} {h : Heap} {r : List (Addr × Obj)} {a p q c : Addr × Obj} (N : News h₀ L h (a :: p :: q :: c :: r)) : News h₀ L h (p :: q :: c :: a :: r) := fun x hx => by
  refine N x ?_
  simp only [List.mem_cons] at hx ⊢
  rcases hx with h | h | h | h | h
  · exact .inr (.inl h)
  · exact .inr (.inr (.inl h))
  · exact .inr (.inr (.inr (.inl h)))
  · exact .inl h
  · exact .inr (.inr (.inr (.inr h)))
theorem len_le {l : List Int} {a : Int} (h : (l.length : Int) = 1 + a.fmod 5) : l.length ≤ 1000 := by
  have h1 := nle a
  omega
theorem len_leM {l : List Int} {f : Int → Int} {a : Int} (h : (l.length : Int) = 1 + a.fmod 5) : (List.map f l).length ≤ 1000 := by
  rw [List.length_map]
  exact len_le h
local macro_rules | `(tactic| walk_at "binaryOp Add ref ref") => `(tactic| (k_here; (with_reducible show wpAny _ _ (binaryOp Operator.Add (Value.ref _) (Value.ref _)) _ _ _); k_dflt (refine' conAdd _ _ _ _ _ _ _ _ _ _ _ _ _ _ _ _ _ _ _ _ _ _ _ _ _ _ _ _ _ _ _ _ _ _ _ _ _ _ _ _ _ _ _ _ _ _ _ _ _ _ _ _ _ ?k1 ?k2 ?k3 ?k4 ?k5 ?kd ?ku ?kI ?kJ ?kn ?km ?kb (fun r9 dr9 R9 us9 c9 a9 b9 h9 tk9 hI9 F9 o9 l9 l9' N9 => ?_); (case k1 => k_asm); (case k2 => k_asm); (case k3 => k_asm); (case k4 => exact news_pick8 (by k_asm) (by k_mem) (by k_mem) (by k_mem) (by k_mem) (by k_mem) (by k_mem) (by k_mem) (by k_mem)); (case k5 => k_asm); (case kI => with_reducible assumption); (case kJ => with_reducible assumption); (case kn => first | with_reducible assumption | exact nlen _ _); (case km => first | with_reducible assumption | exact nlen _ _); (case kb => exact nle _); (case kd => first | exact Nat.le_of_ble_eq_true rfl | ktr_room); (case ku => first | exact Nat.le_of_ble_eq_true rfl | ktr_units); (try dsimp only)); (try k_lt2 l9')))
local macro_rules | `(tactic| walk_at "binaryOp Sub ref ref") => `(tactic| (k_here; (with_reducible show wpAny _ _ (binaryOp Operator.Sub (Value.ref _) (Value.ref _)) _ _ _); k_dflt (refine' conSub _ _ _ _ _ _ _ _ _ _ _ _ _ _ _ _ _ _ _ _ _ _ _ _ _ _ _ _ _ _ _ _ _ _ _ _ _ _ _ _ _ _ _ _ _ _ _ _ _ _ _ _ _ ?k1 ?k2 ?k3 ?k4 ?k5 ?kd ?ku ?kI ?kJ ?kn ?km ?kb (fun r9 dr9 R9 us9 c9 a9 b9 h9 tk9 hI9 F9 o9 l9 l9' N9 => ?_); (case k1 => k_asm); (case k2 => k_asm); (case k3 => k_asm); (case k4 => exact news_pick8 (by k_asm) (by k_mem) (by k_mem) (by k_mem) (by k_mem) (by k_mem) (by k_mem) (by k_mem) (by k_mem)); (case k5 => k_asm); (case kI => with_reducible assumption); (case kJ => with_reducible assumption); (case kn => first | with_reducible assumption | exact nlen _ _); (case km => first | with_reducible assumption | exact nlen _ _); (case kb => exact nle _); (case kd => first | exact Nat.le_of_ble_eq_true rfl | ktr_room); (case ku => first | exact Nat.le_of_ble_eq_true rfl | ktr_units); (try dsimp only)); (try k_lt2 l9')))
local macro_rules | `(tactic| walk_at "binaryOp Mult ref int") => `(tactic| (k_here; (with_reducible show wpAny _ _ (binaryOp Operator.Mult (Value.ref _) (Value.int _ _)) _ _ _); k_dflt (refine' conMul _ _ _ _ _ _ _ _ _ _ _ _ _ _ _ _ _ _ _ _ _ _ _ _ _ _ _ _ _ _ _ _ _ _ _ _ _ _ _ _ _ _ _ _ _ _ _ ?k1 ?k2 ?k3 ?k4 ?k5 ?kd ?ku ?kI ?kn ?kb ?ka ?kz (fun r9 dr9 R9 us9 c9 a9 b9 h9 tk9 hI9 F9 o9 l9 l9' N9 => ?_); (case k1 => k_asm); (case k2 => k_asm); (case k3 => k_asm); (case k4 => exact news_pick5 (by k_asm) (by k_mem) (by k_mem) (by k_mem) (by k_mem) (by k_mem)); (case k5 => k_asm); (case kI => with_reducible assumption); (case kn => first | with_reducible assumption | exact nlen _ _); (case kb => exact nle _); (case ka => exact tm_lo _); (case kz => exact tm_hi _); (case kd => first | exact Nat.le_of_ble_eq_true rfl | ktr_room); (case ku => first | exact Nat.le_of_ble_eq_true rfl | ktr_units); (try dsimp only)); (try k_lt2 l9')))
local macro_rules | `(tactic| walk_at "unaryOp USub ref") => `(tactic| (k_here; (with_reducible show wpAny _ _ (unaryOp UnaryOp.USub (Value.ref _)) _ _ _); k_dflt (refine' conNeg _ _ _ _ _ _ _ _ _ _ _ _ _ _ _ _ _ _ _ _ _ _ _ _ _ _ _ _ _ _ _ _ _ _ _ _ _ _ _ _ _ _ _ _ _ ?k1 ?k2 ?k3 ?k4 ?k5 ?kd ?ku ?kI ?kn ?kb (fun r9 dr9 R9 us9 c9 a9 b9 h9 tk9 hI9 F9 o9 l9 l9' N9 => ?_); (case k1 => k_asm); (case k2 => k_asm); (case k3 => k_asm); (case k4 => exact news_pick5 (by k_asm) (by k_mem) (by k_mem) (by k_mem) (by k_mem) (by k_mem)); (case k5 => k_asm); (case kI => with_reducible assumption); (case kn => first | with_reducible assumption | exact nlen _ _); (case kb => exact nle _); (case kd => first | exact Nat.le_of_ble_eq_true rfl | ktr_room); (case ku => first | exact Nat.le_of_ble_eq_true rfl | ktr_units); (try dsimp only)); (try k_lt2 l9')))
local macro_rules | `(tactic| walk_at "call ref") => `(tactic| (k_here; (with_reducible show wpAny _ _ (call (Value.ref 438) [Value.int _ _, Value.int _ _]) _ _ _); k_dflt (refine' conLK _ _ _ _ _ _ _ _ _ _ _ _ _ _ _ _ _ _ _ _ _ _ _ _ _ _ _ _ _ _ ?k1 ?k2 ?k3 ?k4 ?k5 ?kd ?ku ?ka ?kz (fun t9 h9 tk9 F9 N9 => ?_); (case k1 => k_asm); (case k2 => k_asm); (case k3 => k_asm); (case k4 => k_asm); (case k5 => k_asm); (case ka => exact d_lo _); (case kz => exact d_hi _); (case kd => first | exact Nat.le_of_ble_eq_true rfl | ktr_room); (case ku => first | exact Nat.le_of_ble_eq_true rfl | ktr_units); (try dsimp only))))
local macro_rules | `(tactic| walk_at "call ref") => `(tactic| (k_here; (with_reducible show wpAny _ _ (call (Value.ref 445) [Value.int _ _, Value.int _ _]) _ _ _); k_dflt (refine' conLB _ _ _ _ _ _ _ _ _ _ _ _ _ _ _ _ _ _ _ _ _ _ _ _ _ _ _ _ _ _ ?k1 ?k2 ?k3 ?k4 ?k5 ?kd ?ku ?ka ?kz (fun t9 h9 tk9 F9 N9 => ?_); (case k1 => k_asm); (case k2 => k_asm); (case k3 => k_asm); (case k4 => k_asm); (case k5 => k_asm); (case ka => exact d_lo _); (case kz => exact d_hi _); (case kd => first | exact Nat.le_of_ble_eq_true rfl | ktr_room); (case ku => first | exact Nat.le_of_ble_eq_true rfl | ktr_units); (try dsimp only))))
local macro_rules | `(tactic| walk_at "call ref") => `(tactic| (k_here; (with_reducible show wpAny _ _ (call (Value.ref 324) [Value.ref _, Value.int _ _]) _ _ _); k_dflt (refine' conComp _ _ _ _ _ _ _ _ _ _ _ _ _ _ _ _ _ _ _ _ _ _ _ _ _ _ _ _ _ _ _ _ _ _ _ _ _ ?k1 ?k2 ?k3 ?k4 ?k5 ?kd ?ku ?kI ?kn ?ka ?kz ?kp ?kc ?ko (fun D9 us9 c9 u9 h9 tk9 hI9 F9 o9 N9 => ?_); (case k1 => k_asm); (case k2 => k_asm); (case k3 => k_asm); (case k4 => exact news_rot (by k_asm)); (case k5 => k_asm); (case kI => with_reducible assumption); (case kn => first | exact len_le (by assumption) | exact len_leM (by assumption)); (case ka => exact d_lo _); (case kz => exact d_hi _); (case kp => k_ne); (case kc => k_ne); (case ko => k_all); (case kd => first | exact Nat.le_of_ble_eq_true rfl | ktr_room); (case ku => first | exact Nat.le_of_ble_eq_true rfl | ktr_units); (try dsimp only))))
local macro_rules | `(tactic| walk_at "call ref") => `(tactic| (k_here; (with_reducible show wpAny _ _ (call (Value.ref 329) [Value.ref _, Value.int _ _]) _ _ _); k_dflt (refine' conDecomp _ _ _ _ _ _ _ _ _ _ _ _ _ _ _ _ _ _ _ _ _ _ _ _ _ _ _ _ _ _ _ _ _ _ _ _ _ ?k1 ?k2 ?k3 ?k4 ?k5 ?kd ?ku ?kI ?kn ?ka ?kz ?kp ?kc ?ko (fun D9 us9 c9 u9 h9 tk9 hI9 F9 o9 N9 => ?_); (case k1 => k_asm); (case k2 => k_asm); (case k3 => k_asm); (case k4 => exact news_rot (by k_asm)); (case k5 => k_asm); (case kI => with_reducible assumption); (case kn => first | exact len_le (by assumption) | exact len_leM (by assumption)); (case ka => exact d_lo _); (case kz => exact d_hi _); (case kp => k_ne); (case kc => k_ne); (case ko => k_all); (case kd => first | exact Nat.le_of_ble_eq_true rfl | ktr_room); (case ku => first | exact Nat.le_of_ble_eq_true rfl | ktr_units); (try dsimp only))))
theorem sp_lo (a : Int) : 0 ≤ 2 + (1 + a.fmod 5) := by
  have h1 := fmod_lo a (n := 5) (by decide)
  omega
theorem sp_hi (a : Int) : 2 + (1 + a.fmod 5) ≤ 7 := by
  have h1 := fmod_hi a (n := 5) (by decide)
  omega
theorem ne_gt {a b : Addr} (h : @LT.lt Nat _ b a) : a ≠ b := Nat.ne_of_gt h
theorem ne_lt {a b : Addr} (h : @LT.lt Nat _ a b) : a ≠ b := Nat.ne_of_lt h
local macro_rules | `(tactic| k_ne) => `(tactic| first
  | with_reducible assumption | (with_reducible exact Ne.symm (by assumption)) | (with_reducible exact ne_gt (by assumption)) | (with_reducible exact ne_lt (by assumption))
  | (refine offA_ne (by with_reducible assumption) ?_; k_memK) | (refine offA_ne' (by with_reducible assumption) ?_; k_memK)
  | (refine' off1_ne (by with_reducible assumption) ?hkm; (case hkm => k_memK)) | (refine' off1_ne' (by with_reducible assumption) ?hkm; (case hkm => k_memK))
  | (refine' lt_ne (by with_reducible assumption) ?hkm; (case hkm => k_memK)) | (refine' lt_ne' (by with_reducible assumption) ?hkm; (case hkm => k_memK))
  | (refine' lt2_ne (by with_reducible assumption) (by with_reducible assumption) ?hkm; (case hkm => k_memK)) | (refine' lt2_ne' (by with_reducible assumption) (by with_reducible assumption) ?hkm; (case hkm => k_memK)))
local macro_rules | `(tactic| walk_at "FinE") => `(tactic| ((unfold LCg.FinE); intro D' h' tk' F' N' o1'; (try simp only [List.nil_append, List.cons_append] at N'); (try dsimp only)))
local macro_rules | `(tactic| walk_at "FinA") => `(tactic| ((unfold LCg.FinA); intro D' h' tk' F' N' o1'; (try simp only [List.nil_append, List.cons_append] at N'); (try dsimp only)))
local macro_rules | `(tactic| walk_at "eval ListComp") => `(tactic| (k_here; k_dflt (refine LCg.ListComp_U (F₀ := by k_asm) (by with_unfolding_all rfl) (by decide) (by rfl) (by decide) (by rfl) ?_)))
theorem tm_ok (x a : Int) : IntMulOk x (a.fmod 7 - 3) := by
  have h1 := tm_lo a
  have h2 := tm_hi a
  exact IntMulOk.of_right (intBits_le_64 (by omega) (by omega))
local macro_rules | `(tactic| mul_fits) => `(tactic| with_reducible exact tm_ok _ _)
local macro_rules | `(tactic| walk_at "FreePost") => `(tactic| (refine' end02 ?eF ?eN ?ep ?eb ?er ?m1 ?m2 ?m3 ?m4 ?m5 ?k7 ?k6 ?k5 ?k4 ?k3 ?k2 ?k1 ?d2 ?d3 ?d4 ?d5 ?d6 ?d7 ?m6 ?m7 ?eoff ?ex ?ed ?ec ?es ?op ?oq ?oC ?oN ?oE ?hy ?hn ?heq ?he ?ln ?le ?s0 ?s1 ?b0 ?bd ?od; (case eF => k_asm); (case eN => k_asm); (case ep => exact rfl); (case eb => exact rfl); (case m1 => k_memK); (case m2 => k_memK); (case m3 => k_memK); (case m4 => k_memK); (case m5 => k_memK); (case k7 => k_memK); (case k6 => k_memK); (case k5 => k_memK); (case k4 => k_memK); (case k3 => k_memK); (case k2 => k_memK); (case k1 => k_memK); (case d2 => assumption); (case d3 => assumption); (case d4 => assumption); (case d5 => assumption); (case d6 => assumption); (case d7 => assumption); (case m6 => k_memK); (case m7 => k_memK); (case eoff => assumption); (case ex => k_memK); (case ed => k_memK); (case ec => k_allIn); (case es => (intro q hq; repeat (first | exact hq | refine List.Mem.tail _ ?_))); (case op => first | (exact ownA_off (by with_reducible assumption) (by k_memK)) | (exact ownA_off1 (by with_reducible assumption) (by (intro q hq; repeat (first | exact hq | refine List.Mem.tail _ ?_)))) | (exact ownA_lt (by with_reducible assumption) (by (intro q hq; repeat (first | exact hq | refine List.Mem.tail _ ?_)))) | (exact ownA_lt2 (by with_reducible assumption) (by with_reducible assumption) (by (intro q hq; repeat (first | exact hq | refine List.Mem.tail _ ?_))))); (case oq => first | (exact ownA_off (by with_reducible assumption) (by k_memK)) | (exact ownA_off1 (by with_reducible assumption) (by (intro q hq; repeat (first | exact hq | refine List.Mem.tail _ ?_)))) | (exact ownA_lt (by with_reducible assumption) (by (intro q hq; repeat (first | exact hq | refine List.Mem.tail _ ?_)))) | (exact ownA_lt2 (by with_reducible assumption) (by with_reducible assumption) (by (intro q hq; repeat (first | exact hq | refine List.Mem.tail _ ?_))))); (case oC => first | (exact ownA_off (by with_reducible assumption) (by k_memK)) | (exact ownA_off1 (by with_reducible assumption) (by (intro q hq; repeat (first | exact hq | refine List.Mem.tail _ ?_)))) | (exact ownA_lt (by with_reducible assumption) (by (intro q hq; repeat (first | exact hq | refine List.Mem.tail _ ?_)))) | (exact ownA_lt2 (by with_reducible assumption) (by with_reducible assumption) (by (intro q hq; repeat (first | exact hq | refine List.Mem.tail _ ?_))))); (case oN => first | (exact ownA_off (by with_reducible assumption) (by k_memK)) | (exact ownA_off1 (by with_reducible assumption) (by (intro q hq; repeat (first | exact hq | refine List.Mem.tail _ ?_)))) | (exact ownA_lt (by with_reducible assumption) (by (intro q hq; repeat (first | exact hq | refine List.Mem.tail _ ?_)))) | (exact ownA_lt2 (by with_reducible assumption) (by with_reducible assumption) (by (intro q hq; repeat (first | exact hq | refine List.Mem.tail _ ?_))))); (case oE => first | (exact ownA_off (by with_reducible assumption) (by k_memK)) | (exact ownA_off1 (by with_reducible assumption) (by (intro q hq; repeat (first | exact hq | refine List.Mem.tail _ ?_)))) | (exact ownA_lt (by with_reducible assumption) (by (intro q hq; repeat (first | exact hq | refine List.Mem.tail _ ?_)))) | (exact ownA_lt2 (by with_reducible assumption) (by with_reducible assumption) (by (intro q hq; repeat (first | exact hq | refine List.Mem.tail _ ?_))))); (case hy => assumption); (case hn => assumption); (case he => assumption); (case er => (intro y h1 h2 h3 h4; obtain ⟨q1, q2, q3, q4, q5, q6, q7, q8⟩ := not_stored h4; simp only [h1, h2, h3, q1, q2, q3, q4, q5, q6, q7, q8, h4, if_false, Bool.false_eq_true])); (case heq => first | assumption | rfl); (case ln => first | with_reducible assumption | with_reducible exact zlenE (by assumption) (nlen _ _) | with_reducible exact lenM (by assumption) | with_reducible exact lenM (lenM (by assumption))); (case le => first | with_reducible assumption | with_reducible exact nlen _ _ | with_reducible exact lenM (by assumption)); (case s0 => first | with_reducible exact s0_a (by assumption) | with_reducible exact s0_b (by assumption)); (case s1 => first | with_reducible exact s1_a (by assumption) | with_reducible exact s1_b (by assumption)); (case b0 => first | with_reducible assumption | with_reducible exact b0_sq (by assumption) | with_reducible exact b0_mul (by assumption)); (case bd => first | with_reducible assumption | with_reducible exact bnd_add (by assumption) (by assumption) (nlen _ _) | with_reducible exact bnd_sub (by assumption) (by assumption) (nlen _ _) | with_reducible exact bnd_squeeze2 (d_lo _) (by assumption) (by assumption) (by assumption) | with_reducible exact bnd_mul2 (by assumption) (by assumption) (by assumption) | with_reducible exact bnd_neg2 (by assumption) (by assumption) (by assumption)); (case od => (constructor <;> (repeat (first | exact offA_nil | refine offA_cons (by k_ne) ?_))))))
theorem sz_le {vs : List Value} {l : List Int} {a : Int} (hI : IntsAre vs l) (h : (l.length : Int) = 1 + a.fmod 5) : vs.toArray.size ≤ sizeLine := by
  have h1 := nle a
  rw [List.size_toArray, hI.length, sizeLine_eq]
  omega
local macro_rules | `(tactic| walk_at "CompSrc") => `(tactic| (k_here; k_dflt (refine LCg.CompSrc.ledger (by rfl) (by k_asm) (by k_asm) (by k_mem) (by first | exact sz_le (by assumption) (by assumption) | kcf_size) ?_; intro g'; (refine' kcf_list _ (by assumption) (fun k' t' I' oI' C' oC' D' m' ys' h' tk' E' hk' hC' hx' F' N' off' ne' hMark' => ?_) ?_); (all_goals (try (simp only [LCg.Off3, and_true] at off'))); kcf_last)))
local macro_rules | `(tactic| walk_at "exec Return some") => `(tactic| (k_here; (with_reducible show wpAny _ _ (exec (Stmt.Return (some (PySem.Expr.Constant (Const.bool false) _ _)) _) _) _ _ _); exfalso; with_reducible first | exact absAdd (by assumption) (by assumption) | exact absSub (by assumption) (by assumption) | exact absComp (by assumption) | exact absDec (by assumption) | exact absNeg (by assumption) | exact no_fail2 (by assumption) (by assumption) (by assumption) (by assumption) (by assumption)))
local macro_rules | `(tactic| walk_at "FreePost") => `(tactic| (refine' end02b ?eF ?eN ?es ?eo ?er; (case eF => k_asm); (case eN => k_asm); (case es => (intro q hq; repeat (first | exact hq | refine List.Mem.tail _ ?_))); (case eo => assumption); (case er => (intro y h1 h2; simp [h1, h2]))))
theorem it3_hi {k a : Int} {l : List Int} (hk : k < 0 + ((1 + a.fmod 5 - 0 : Int).toNat : Int)) (hl : (l.length : Int) = 1 + a.fmod 5) : k < (l.length : Int) := by
  have h2 := fmod_lo a (n := 5) (by decide)
  omega
theorem it3_fit {k a : Int} (hk : k < 0 + ((1 + a.fmod 5 - 0 : Int).toNat : Int)) : k < 2 ^ 63 := by
  have h1 := fmod_hi a (n := 5) (by decide)
  have h2 := fmod_lo a (n := 5) (by decide)
  omega
local macro_rules | `(tactic| walk_at "subscriptTail Name Name ref int") => `(tactic| (k_here; (with_reducible show wpAny _ _ (subscriptTail _ _ (Value.ref _) (Value.int _ _)) _ _ _); k_dflt (refine' item_list_intsR ?z1 ?z2 ?z3 ?z4 ?z5 ?_; (case z1 => kmk_list); (case z2 => with_reducible assumption); (case z3 => with_reducible assumption); (case z4 => with_reducible first | exact it3_hi (by assumption) (by assumption) | exact it3_hi (by assumption) (nlen _ _)); (case z5 => with_reducible exact it3_fit (by assumption)); intro t9; (try dsimp only))))
local macro_rules | `(tactic| walk_at "subscriptTail Name Name ref int") => `(tactic| (k_here; (with_reducible show wpAny _ _ (subscriptTail _ _ (Value.ref _) (Value.int (0 + _) _)) _ _ _); k_dflt (refine' item_list_intsR ?z1 ?z2 ?z3 ?z4 ?z5 ?_; (case z1 => kmk_list); (case z2 => with_reducible assumption); (case z3 => with_reducible exact it2_lo _); (case z4 => with_reducible exact it2_hi (by assumption) (by assumption)); (case z5 => with_reducible exact it2_fit (by assumption)); intro t9; (try dsimp only))))
local macro_rules | `(tactic| walk_at "pyIter ref") => `(tactic| (k_here; (with_reducible show wpAny _ _ (pyIter _) (fun it s₂ => LoopAtV _ _ _ _ _ (Str.ofString "i") _ _ _ it s₂) _ _); k_dflt ((rename IsRange _ _ _ _ _ _ _ _ => hR8); (rename Fr _ _ _ _ => hF8); (rename News _ _ _ _ => hN8); (with_unfolding_all refine' loop02b ?vL ?vh ?vr ?v0 ?v1 ?vF ?vN ?vturn ?vdone); (case vr => exact hR8); (case vF => exact hF8); (case vL => rfl); (case vh => rfl); (case v0 => exact lp_lo _); (case v1 => exact nle _); (case vN => exact hN8); (case' vturn => (intro i t u h tk own hi hoff hF hN; (try dsimp only at hoff hF hN); simp only [List.cons_append, List.nil_append, List.map_cons, List.map_nil] at hN hoff)); (case' vdone => (intro u h tk hF hN; (try dsimp only))))))
local macro_rules | `(tactic| walk_at "pyIter ref") => `(tactic| (k_here; (with_reducible show wpAny _ _ (pyIter _) (fun it s₂ => LoopAtV _ _ _ _ _ (Str.ofString "_") _ _ _ it s₂) _ _); k_dflt ((rename IsRange _ _ _ _ _ _ _ _ => hR9); (rename Fr _ _ _ _ => hF9); (rename News _ _ _ _ => hN9); (with_unfolding_all refine' loop02 ?hL ?hh ?hr ?F ?N ?hp ?hb ?hy ?hn ?he ?ln ?d2 ?d3 ?d4 ?d5 ?d6 ?d7 ?s0 ?s1 ?od ?turn ?done); (case hr => exact hR9); (case F => exact hF9); (case hL => rfl); (case hh => rfl); (case N => exact hN9); (case hp => rfl); (case hb => rfl); (case hy => assumption); (case hn => assumption); (case he => assumption); (case ln => exact nlen _ _); (case d2 => assumption); (case d3 => assumption); (case d4 => assumption); (case d5 => assumption); (case d6 => assumption); (case d7 => assumption); (case s0 => exact sp_lo _); (case s1 => exact sp_hi _); (case od => (constructor <;> (repeat (first | exact offA_nil | refine offA_cons (by k_ne) ?_)))); (case' turn => (intro c i t u h tk own hi hoff hP hF hN; obtain ⟨p, dq, C, N, E, t7, t8, yv, nv, ev, c1, c2, c3, ns, es, b, tb, spot, ts, o2, o3, o4, o5, o6, o7, v5, v6, v7⟩ := c; obtain ⟨hy, hn, he, ln, le, d2, d3, d4, d5, d6, d7, s0, s1, b0, bd, od⟩ := hP; obtain ⟨ap, aq, aC, ax, ad, aN, aE⟩ := od; dsimp only at hoff hy hn he ln le d2 d3 d4 d5 d6 d7 s0 s1 b0 bd ap aq aC ax ad aN aE hF hN; simp only [Led02, List.cons_append, List.nil_append, List.map_cons, List.map_nil] at hN hoff; have hMk : KstMark := kstMark)); (case' done => (intro c u h tk hP hF hN; obtain ⟨p, dq, C, N, E, t7, t8, yv, nv, ev, c1, c2, c3, ns, es, b, tb, spot, ts, o2, o3, o4, o5, o6, o7, v5, v6, v7⟩ := c; obtain ⟨hy, hn, he, ln, le, d2, d3, d4, d5, d6, d7, s0, s1, b0, bd, od⟩ := hP; obtain ⟨ap, aq, aC, ax, ad, aN, aE⟩ := od; dsimp only at hy hn he ln le d2 d3 d4 d5 d6 d7 s0 s1 b0 bd ap aq aC ax ad aN aE hF hN; simp only [Led02] at hN; have hMk : KstMark := kstMark; (try dsimp only))))))
/- empty definitions: where one stands, the head lays no twin (a twin is large in the compiled file) -/
def law_holds.tw4503035019201841076 : Unit := ()
def law_holds.tw10983241140555628109 : Unit := ()
def law_holds.tw12800644894191811977 : Unit := ()
def law_holds.tw1414043511812021011 : Unit := ()
def law_holds.tw14160533322030094474 : Unit := ()
def law_holds.tw447027507633508388 : Unit := ()
def law_holds.tw18340598423539479173 : Unit := ()
def law_holds.tw8720880381367431298 : Unit := ()
def law_holds.tw10458381655096516384 : Unit := ()
def law_holds.tw6860709855171689206 : Unit := ()
def law_holds.tw9168033884955339765 : Unit := ()
def law_holds.tw3974387499553966400 : Unit := ()
def law_holds.tw9288214680346807717 : Unit := ()
def law_holds.tw5950301352895977177 : Unit := ()
def law_holds.tw10028117763298573888 : Unit := ()
def law_holds.tw16057390660189216267 : Unit := ()
def law_holds.tw3672438013989251361 : Unit := ()
def law_holds.tw2695550118857162214 : Unit := ()
def law_holds.tw12847567107135931479 : Unit := ()
def law_holds.tw16805829885119392726 : Unit := ()
def law_holds.tw4992725456586698614 : Unit := ()
def law_holds.tw8514742172934523775 : Unit := ()
def law_holds.tw2557128651999224082 : Unit := ()
def law_holds.tw7696488724909661519 : Unit := ()
def law_holds.tw16514328952699827715 : Unit := ()
def law_holds.tw11097350217990362986 : Unit := ()
def law_holds.tw3307954989432871184 : Unit := ()
def law_holds.tw1096898596823417342 : Unit := ()
def law_holds.tw2887050238494874643 : Unit := ()
def law_holds.tw13482675847692870326 : Unit := ()
def law_holds.tw1784627337472249616 : Unit := ()
def law_holds.tw10007947361888340627 : Unit := ()
def law_holds.tw12481875629721207810 : Unit := ()
def law_holds.tw14497384708736915567 : Unit := ()
def law_holds.tw3756308257209627903 : Unit := ()
def law_holds.tw12253411696296436870 : Unit := ()
def law_holds.tw18261290160731607033 : Unit := ()
def law_holds.tw2907507879108658156 : Unit := ()
def law_holds.tw12134408205421670959 : Unit := ()
def law_holds.tw7495221243884187115 : Unit := ()
def law_holds.tw13642005409729077643 : Unit := ()
def law_holds.tw4524032621918665186 : Unit := ()
def law_holds.tw8890443458166856008 : Unit := ()
def law_holds.tw12459966957829302596 : Unit := ()
def law_holds.tw8984152853971343422 : Unit := ()
def law_holds.tw5045712524691215523 : Unit := ()
def law_holds.tw17993387198741990920 : Unit := ()
def law_holds.tw17449644191371220912 : Unit := ()
def law_holds.tw2090888555730037645 : Unit := ()
def law_holds.tw12889056044993165476 : Unit := ()
def law_holds.tw9889521400790421688 : Unit := ()
def law_holds.tw10301956948240465243 : Unit := ()
def law_holds.tw6265907326580845545 : Unit := ()
def law_holds.tw18388893480867403737 : Unit := ()
def law_holds.tw3769339739266743318 : Unit := ()
def law_holds.tw7769649832755249146 : Unit := ()
def law_holds.tw5858263632927829637 : Unit := ()
def law_holds.tw5506821171919863439 : Unit := ()
def law_holds.tw13397297893571687751 : Unit := ()
def law_holds.tw228058311090241170 : Unit := ()
def law_holds.tw6667284449218939238 : Unit := ()
def law_holds.tw17713402740875732926 : Unit := ()
def law_holds.tw11484002064277903863 : Unit := ()
def law_holds.tw14774650325386425613 : Unit := ()
def law_holds.tw1670043908289496885 : Unit := ()
def law_holds.tw2269544990204364226 : Unit := ()
def law_holds.tw179590077315354965 : Unit := ()
def law_holds.tw11303081109005220762 : Unit := ()
def law_holds.tw6896717019858035522 : Unit := ()
def law_holds.tw18135211599370774712 : Unit := ()
def law_holds.tw15472126771306010800 : Unit := ()
def law_holds.tw13429453918920967058 : Unit := ()
def law_holds.tw15609566024721092083 : Unit := ()
def law_holds.tw3850334171643177529 : Unit := ()
def law_holds.tw9606376775287448836 : Unit := ()
def law_holds.tw6746360682218282392 : Unit := ()
def law_holds.tw1496123403401453975 : Unit := ()
def law_holds.tw3186734533307500241 : Unit := ()
def law_holds.tw12116493165278983582 : Unit := ()
def law_holds.tw9945564307700969627 : Unit := ()
def law_holds.tw2602977815382960713 : Unit := ()
def law_holds.tw14326059299131336239 : Unit := ()
def law_holds.tw3329330481660614911 : Unit := ()
def law_holds.tw1701620452695913853 : Unit := ()
def law_holds.tw5920216800500632969 : Unit := ()
def law_holds.tw808278469055374699 : Unit := ()
def law_holds.tw16461882675039125421 : Unit := ()
def law_holds.tw8860054118572591635 : Unit := ()
def law_holds.tw907578622648922086 : Unit := ()
def law_holds.tw16009327648451700120 : Unit := ()
def law_holds.tw15732109348078318572 : Unit := ()
def law_holds.tw11690447701083486646 : Unit := ()
def law_holds.tw14390602165704524457 : Unit := ()
def law_holds.tw16760957895259694429 : Unit := ()
def law_holds.tw15661869461025623997 : Unit := ()
def law_holds.tw15333956030411951890 : Unit := ()
def law_holds.tw15726739188670627701 : Unit := ()
def law_holds.tw2152083551845799040 : Unit := ()
def law_holds.tw18090433342136740992 : Unit := ()
def law_holds.tw13983371404066579822 : Unit := ()
def law_holds.tw4244104100366844892 : Unit := ()
def law_holds.tw3776956092104397036 : Unit := ()
def law_holds.tw15150646450996357022 : Unit := ()
def law_holds.tw4581845663705801772 : Unit := ()
def law_holds.tw9423440377400516374 : Unit := ()
def law_holds.tw11426015686315989412 : Unit := ()
def law_holds.tw6499956759230125245 : Unit := ()
def law_holds.tw5981114437932730796 : Unit := ()
def law_holds.tw11100686419730198450 : Unit := ()
def law_holds.tw2078624436916829710 : Unit := ()
def law_holds.tw10516828495840041881 : Unit := ()
def law_holds.tw3682559726232862161 : Unit := ()
def law_holds.tw15154110283740273250 : Unit := ()
def law_holds.tw12294597709558488554 : Unit := ()
def law_holds.tw17923851452625207687 : Unit := ()
def law_holds.tw14822640431511872941 : Unit := ()
def law_holds.tw10222300733896627045 : Unit := ()
def law_holds.tw14925382992726071281 : Unit := ()
def law_holds.tw18051328159682125866 : Unit := ()
def law_holds.tw3438298445031660282 : Unit := ()
def law_holds.tw1905533677188600702 : Unit := ()
def law_holds.tw16935243356766158856 : Unit := ()
def law_holds.tw59864651932915081 : Unit := ()
def law_holds.tw4329158554759489670 : Unit := ()
def law_holds.tw41732636909640268 : Unit := ()
def law_holds.tw1762888911704233025 : Unit := ()
def law_holds.tw11067727234611919522 : Unit := ()
def law_holds.tw16470317323979864763 : Unit := ()
def law_holds.tw6751701741844952029 : Unit := ()
def law_holds.tw2618386414584295968 : Unit := ()
def law_holds.tw5389484754426515990 : Unit := ()
def law_holds.tw11017292853192552079 : Unit := ()
def law_holds.tw8249079356659094474 : Unit := ()
def law_holds.tw9849722394096787677 : Unit := ()
def law_holds.tw12296726922439171297 : Unit := ()
def law_holds.tw4889031023730116350 : Unit := ()
def law_holds.tw13766487248619392586 : Unit := ()
def law_holds.tw14064573792008682920 : Unit := ()
def law_holds.tw17253691774821329096 : Unit := ()
def law_holds.tw8857742495270377987 : Unit := ()
def law_holds.tw1928719863018725356 : Unit := ()
def law_holds.tw8570087061310353148 : Unit := ()
def law_holds.tw6159533029260741167 : Unit := ()
def law_holds.tw10666784280354678857 : Unit := ()
def law_holds.tw1053317679998426468 : Unit := ()
def law_holds.tw2006301483956418059 : Unit := ()
def law_holds.tw15695062497276918967 : Unit := ()
def law_holds.tw2075624079617657780 : Unit := ()
def law_holds.tw3850375180904979519 : Unit := ()
def law_holds.tw12149405283708829123 : Unit := ()
def law_holds.tw8572072892066365893 : Unit := ()
def law_holds.tw12834520207519867868 : Unit := ()
def law_holds.tw9875236377963488844 : Unit := ()
def law_holds.tw3494445600050047599 : Unit := ()
def law_holds.tw7221428835167493151 : Unit := ()
def law_holds.tw10371022188087798493 : Unit := ()
def law_holds.tw18221580467831097590 : Unit := ()
def law_holds.tw7544913113114293122 : Unit := ()
def law_holds.tw12442764191815020716 : Unit := ()
def law_holds.tw10958410103948607464 : Unit := ()
def law_holds.tw14789792462180790578 : Unit := ()
def law_holds.tw17942499455142895165 : Unit := ()
def law_holds.tw13092103797297032270 : Unit := ()
def law_holds.tw5117662029339320154 : Unit := ()
def law_holds.tw11586273756423631628 : Unit := ()
def law_holds.tw9779807473162285230 : Unit := ()
def law_holds.tw4441770287765753910 : Unit := ()
def law_holds.tw2788888992717563140 : Unit := ()
def law_holds.tw7775064044895347852 : Unit := ()
def law_holds.tw12456547296908542839 : Unit := ()
def law_holds.tw13182730311906835528 : Unit := ()
def law_holds.tw13220211186989608806 : Unit := ()
def law_holds.tw17046799393618780204 : Unit := ()
def law_holds.tw784011647948385275 : Unit := ()
def law_holds.tw6677821561840896501 : Unit := ()
def law_holds.tw12684681026606017882 : Unit := ()
def law_holds.tw3979707639553702691 : Unit := ()
def law_holds.tw6260460797876433568 : Unit := ()
def law_holds.tw602461330855297101 : Unit := ()
def law_holds.tw16106779387088534511 : Unit := ()
def law_holds.tw4037582482628031876 : Unit := ()
def law_holds.tw15274831704391544125 : Unit := ()
def law_holds.tw7120836010843673076 : Unit := ()
def law_holds.tw160851071654074740 : Unit := ()
def law_holds.tw2127001594154878533 : Unit := ()
def law_holds.tw7404543985812422374 : Unit := ()
def law_holds.tw9317688335297629284 : Unit := ()
def law_holds.tw6333624483447246961 : Unit := ()
def law_holds.tw723553956927101924 : Unit := ()
def law_holds.tw13800757232730249582 : Unit := ()
def law_holds.tw3742325753681652743 : Unit := ()
def law_holds.tw17255088995462705879 : Unit := ()
def law_holds.tw10264638600885302300 : Unit := ()
def law_holds.tw1689763614830377041 : Unit := ()
def law_holds.tw3253820488102484341 : Unit := ()
def law_holds.tw6553333263825352884 : Unit := ()
def law_holds.tw575232530192455986 : Unit := ()
def law_holds.tw4492043994082249198 : Unit := ()
def law_holds.tw10968802771074238664 : Unit := ()
def law_holds.tw7910590604623066228 : Unit := ()
def law_holds.tw1909877003179415225 : Unit := ()
def law_holds.tw10566571302883470556 : Unit := ()
def law_holds.tw14354538779393863138 : Unit := ()
def law_holds.tw15759456685926392790 : Unit := ()
def law_holds.tw10817052189556005596 : Unit := ()
def law_holds.tw14983226153234331074 : Unit := ()
def law_holds.tw1099259369241382048 : Unit := ()
def law_holds.tw2055734563569237896 : Unit := ()
def law_holds.tw13280740594461564331 : Unit := ()
def law_holds.tw2856731137302751260 : Unit := ()
def law_holds.tw13392613628428298086 : Unit := ()
def law_holds.tw11966672015165255308 : Unit := ()
def law_holds.tw15014403891855920072 : Unit := ()
def law_holds.tw2442502879453312968 : Unit := ()
def law_holds.tw6564709946809587534 : Unit := ()
def law_holds.tw17180001009569633970 : Unit := ()
def law_holds.tw17328188450699661725 : Unit := ()
def law_holds.tw10024239376800412576 : Unit := ()
def law_holds.tw17183477848116922584 : Unit := ()
def law_holds.tw15607887362523206001 : Unit := ()
def law_holds.tw8472228645029834797 : Unit := ()
def law_holds.tw6911747868599837429 : Unit := ()
def law_holds.tw8957123355933967898 : Unit := ()
def law_holds.tw7472407996622490835 : Unit := ()
def law_holds.tw8970147916757833333 : Unit := ()
def law_holds.tw17598101756349436640 : Unit := ()
def law_holds.tw11297062200503488469 : Unit := ()
def law_holds.tw2102315897755806987 : Unit := ()
def law_holds.tw519298541982818421 : Unit := ()
def law_holds.tw16883458599210261866 : Unit := ()
def law_holds.tw12303009252429188658 : Unit := ()
def law_holds.tw16406091861079842607 : Unit := ()
def law_holds.tw17253903310271361901 : Unit := ()
def law_holds.tw14498155544194170393 : Unit := ()
def law_holds.tw18155623678392573649 : Unit := ()
def law_holds.tw6881874429007886204 : Unit := ()
def law_holds.tw4072507727158212662 : Unit := ()
def law_holds.tw13478230802861573701 : Unit := ()
def law_holds.tw8441880690091102137 : Unit := ()
def law_holds.tw12889673554181485818 : Unit := ()
def law_holds.tw15006436103509636135 : Unit := ()
def law_holds.tw14377833709258309704 : Unit := ()
def law_holds.tw15883345262158282383 : Unit := ()
def law_holds.tw2578278018795888234 : Unit := ()
def law_holds.tw10189704592693192966 : Unit := ()
def law_holds.tw4008084134468147086 : Unit := ()
def law_holds.tw850272041215511910 : Unit := ()
def law_holds.tw10188763426450519768 : Unit := ()
def law_holds.tw12108977868540685583 : Unit := ()
def law_holds.tw14571795756577361901 : Unit := ()
def law_holds.tw14289194402921355359 : Unit := ()
def law_holds.tw5037970770195530229 : Unit := ()
def law_holds.tw1377309892636839040 : Unit := ()
def law_holds.tw12645607732203181651 : Unit := ()
def law_holds.tw4818577856007422655 : Unit := ()
def law_holds.tw8909828626151137519 : Unit := ()
def law_holds.tw2887994833065977647 : Unit := ()
def law_holds.tw9887912731928775018 : Unit := ()
def law_holds.tw12780804625047726367 : Unit := ()
def law_holds.tw18254337876149969668 : Unit := ()
def law_holds.tw8481075993509181622 : Unit := ()
def law_holds.tw10368410895845634921 : Unit := ()
def law_holds.tw3674665740742831893 : Unit := ()
def law_holds.tw3005452535816212104 : Unit := ()
def law_holds.tw4593294709026258786 : Unit := ()
def law_holds.tw8040771413219435098 : Unit := ()
def law_holds.tw15162217921772873613 : Unit := ()
def law_holds.tw1376783240425437725 : Unit := ()
def law_holds.tw2175471002772951711 : Unit := ()
def law_holds.tw653560878884961445 : Unit := ()
def law_holds.tw6719018230134327050 : Unit := ()
def law_holds.tw4916342969005030805 : Unit := ()
def law_holds.tw8591876402714022951 : Unit := ()
def law_holds.tw14988988175077273356 : Unit := ()
def law_holds.tw11182679623053108816 : Unit := ()
def law_holds.tw11463670642173560981 : Unit := ()
def law_holds.tw2782584491509435139 : Unit := ()
def law_holds.tw12394330538082041428 : Unit := ()
def law_holds.tw5112083995522966620 : Unit := ()
def law_holds.tw607667584577438428 : Unit := ()
def law_holds.tw3910120701321347557 : Unit := ()
def law_holds.tw13028658284911697911 : Unit := ()
def law_holds.tw14883556706271630602 : Unit := ()
def law_holds.tw16332274672890094952 : Unit := ()
def law_holds.tw12831907817818079685 : Unit := ()
def law_holds.tw15031514592837009168 : Unit := ()
def law_holds.tw10242277825702978295 : Unit := ()
def law_holds.tw17911580528928914924 : Unit := ()
def law_holds.tw631266038723830076 : Unit := ()
def law_holds.tw4614512636035447770 : Unit := ()
def law_holds.tw8634839017697508684 : Unit := ()
def law_holds.tw9529696498207198238 : Unit := ()
def law_holds.tw17758146289354676595 : Unit := ()
def law_holds.tw1832781179975386347 : Unit := ()
def law_holds.tw15829985883664642994 : Unit := ()
def law_holds.tw3850404396616230974 : Unit := ()
def law_holds.tw8835965917227929528 : Unit := ()
def law_holds.tw7484302960587174374 : Unit := ()
def law_holds.tw3325053159509445791 : Unit := ()
def law_holds.tw908389787484368193 : Unit := ()
def law_holds.tw10108825076125807744 : Unit := ()
def law_holds.tw3046938939346580660 : Unit := ()
def law_holds.tw16963379459963715452 : Unit := ()
def law_holds.tw11330957891505755796 : Unit := ()
def law_holds.tw2136269947727277649 : Unit := ()
def law_holds.tw8666519363043736892 : Unit := ()
def law_holds.tw1973129929022764952 : Unit := ()
def law_holds.tw14385925486924208373 : Unit := ()
def law_holds.tw6861490101519172755 : Unit := ()
def law_holds.tw8191475993861738794 : Unit := ()
def law_holds.tw13154458805202713791 : Unit := ()
def law_holds.tw5451054884063135654 : Unit := ()
def law_holds.tw10954758410522031216 : Unit := ()
def law_holds.tw11956458263131016624 : Unit := ()
def law_holds.tw13958071646730322851 : Unit := ()
def law_holds.tw17499823404086765753 : Unit := ()
def law_holds.tw9032369906271771983 : Unit := ()
def law_holds.tw18234560199702728603 : Unit := ()
def law_holds.tw3882201998751590657 : Unit := ()
def law_holds.tw8854015012368427407 : Unit := ()
def law_holds.tw3136910860242942599 : Unit := ()
def law_holds.tw11223184984439025696 : Unit := ()
def law_holds.tw15617896438947887921 : Unit := ()
def law_holds.tw3808703085821546077 : Unit := ()
def law_holds.tw1791086108937442324 : Unit := ()
def law_holds.tw15514866124879379921 : Unit := ()
def law_holds.tw8984712037535005518 : Unit := ()
def law_holds.tw18430954121086234272 : Unit := ()
def law_holds.tw8652346329174877282 : Unit := ()
def law_holds.tw17309000430359075326 : Unit := ()
def law_holds.tw13650905803964671038 : Unit := ()
def law_holds.tw16074064945343616743 : Unit := ()
def law_holds.tw7089819591129360890 : Unit := ()
def law_holds.tw1622690429015379626 : Unit := ()
def law_holds.tw12874571214893485439 : Unit := ()
def law_holds.tw3390839446522356110 : Unit := ()
def law_holds.tw5480795135073391753 : Unit := ()
def law_holds.tw11404014056486942332 : Unit := ()
def law_holds.tw17899081815984039989 : Unit := ()
def law_holds.tw7304591109411159013 : Unit := ()
def law_holds.tw14904137174637212347 : Unit := ()
def law_holds.tw4146061822495498468 : Unit := ()
def law_holds.tw15140378357190847165 : Unit := ()
def law_holds.tw6776455111828631412 : Unit := ()
def law_holds.tw5212653520564569363 : Unit := ()
def law_holds.tw17974257514489008736 : Unit := ()
def law_holds.tw5731563423909890137 : Unit := ()
def law_holds.tw4439653461905209652 : Unit := ()
def law_holds.tw10609929442622069884 : Unit := ()
def law_holds.tw123295346585929383 : Unit := ()
def law_holds.tw9207643191828677137 : Unit := ()
def law_holds.tw6709271908398517637 : Unit := ()
def law_holds.tw2043166853727251185 : Unit := ()
def law_holds.tw2644310842459337959 : Unit := ()
def law_holds.tw6193885453230671252 : Unit := ()
def law_holds.tw8312341600987523519 : Unit := ()
def law_holds.tw13342137609418717338 : Unit := ()
def law_holds.tw13402424001964919149 : Unit := ()
def law_holds.tw14746732674962391887 : Unit := ()
def law_holds.tw5640673133297012132 : Unit := ()
def law_holds.tw14646867148444618371 : Unit := ()
def law_holds.tw13336368349410954346 : Unit := ()
def law_holds.tw2016121425191149895 : Unit := ()
def law_holds.tw8549365171731915398 : Unit := ()
def law_holds.tw17274716441693411508 : Unit := ()
def law_holds.tw498061464947678834 : Unit := ()
def law_holds.tw12291295341487003417 : Unit := ()
def law_holds.tw10465528174321978529 : Unit := ()
def law_holds.tw1258919526383655059 : Unit := ()
def law_holds.tw15352839923633478061 : Unit := ()
def law_holds.tw12001131798957381970 : Unit := ()
def law_holds.tw15293083901398250104 : Unit := ()
def law_holds.tw6869992995446874880 : Unit := ()
def law_holds.tw9992725586745946429 : Unit := ()
def law_holds.tw2667362832866536986 : Unit := ()
def law_holds.tw14531881819706719225 : Unit := ()
def law_holds.tw445335354869643106 : Unit := ()
def law_holds.tw4781243967656130014 : Unit := ()
def law_holds.tw10442559174759676424 : Unit := ()
def law_holds.tw9634471323475708679 : Unit := ()
def law_holds.tw13431030151845061361 : Unit := ()
def law_holds.tw13281950902743806629 : Unit := ()
def law_holds.tw1854743185413416070 : Unit := ()
def law_holds.tw8790382262760724670 : Unit := ()
def law_holds.tw3033269912633744064 : Unit := ()
def law_holds.tw14997073306097389879 : Unit := ()
def law_holds.tw14596297492920191028 : Unit := ()
def law_holds.tw8061732933902216757 : Unit := ()
def law_holds.tw15644819842384902770 : Unit := ()
def law_holds.tw16098122237329998606 : Unit := ()
def law_holds.tw12977093529070104392 : Unit := ()
def law_holds.tw11891475066942536656 : Unit := ()
def law_holds.tw7185456241796803578 : Unit := ()
def law_holds.tw15694993059591697976 : Unit := ()
def law_holds.tw8330938851228082562 : Unit := ()
def law_holds.tw1710076424337546998 : Unit := ()
def law_holds.tw881140697980615281 : Unit := ()
def law_holds.tw8829074647290719032 : Unit := ()
def law_holds.tw12663309570017281627 : Unit := ()
def law_holds.tw1685627985566243432 : Unit := ()
def law_holds.tw293627430662643474 : Unit := ()
def law_holds.tw5062152199769849712 : Unit := ()
def law_holds.tw2322801206320994539 : Unit := ()
def law_holds.tw1550374771381668074 : Unit := ()
def law_holds.tw14335913921861858828 : Unit := ()
def law_holds.tw18006792725990754497 : Unit := ()
def law_holds.tw14545874151571354728 : Unit := ()
def law_holds.tw1767730674963353768 : Unit := ()
def law_holds.tw8763168800255643514 : Unit := ()
def law_holds.tw5898729028444588960 : Unit := ()
def law_holds.tw15272395603832836080 : Unit := ()
def law_holds.tw16612359704951912572 : Unit := ()
def law_holds.tw11609493526922420660 : Unit := ()
def law_holds.tw11924911360389889469 : Unit := ()
def law_holds.tw5364902710198789758 : Unit := ()
def law_holds.tw8804120190785687885 : Unit := ()
def law_holds.tw17169043682955552997 : Unit := ()
def law_holds.tw12476058986133298565 : Unit := ()
def law_holds.tw2142710703020379005 : Unit := ()
def law_holds.tw3049941959672503198 : Unit := ()
def law_holds.tw1778412455037948541 : Unit := ()
def law_holds.tw3572487005457819259 : Unit := ()
def law_holds.tw9682718004065560343 : Unit := ()
def law_holds.tw11098625913536864229 : Unit := ()
def law_holds.tw6317479115527610633 : Unit := ()
def law_holds.tw17137235678499792623 : Unit := ()
def law_holds.tw15802469936163623734 : Unit := ()
def law_holds.tw1186782194237197914 : Unit := ()
def law_holds.tw8785698371604719795 : Unit := ()
def law_holds.tw12342728606916771844 : Unit := ()
def law_holds.tw1989176631692091739 : Unit := ()
def law_holds.tw6041440012092600215 : Unit := ()
def law_holds.tw17865009358878524859 : Unit := ()
def law_holds.tw4995542688137877417 : Unit := ()
def law_holds.tw13190408463805328480 : Unit := ()
def law_holds.tw2903333896348957400 : Unit := ()
def law_holds.tw8553002610548859549 : Unit := ()
def law_holds.tw9552830710289189752 : Unit := ()
def law_holds.tw119634142877433759 : Unit := ()
def law_holds.tw9184033795430018204 : Unit := ()
def law_holds.tw8715444014776630742 : Unit := ()
def law_holds.tw10726639523019406850 : Unit := ()
def law_holds.tw15448297888555860652 : Unit := ()
def law_holds.tw724200737284857819 : Unit := ()
def law_holds.tw4464252984393422682 : Unit := ()
def law_holds.tw11764581739189218997 : Unit := ()
def law_holds.tw4273555757443719353 : Unit := ()
def law_holds.tw6934448944433832347 : Unit := ()
def law_holds.tw17027635718292003107 : Unit := ()
def law_holds.tw1285599515219305098 : Unit := ()
def law_holds.tw11795792742502079742 : Unit := ()
def law_holds.tw1335265377702380343 : Unit := ()
def law_holds.tw7480714314260584917 : Unit := ()
def law_holds.tw17028624522117568015 : Unit := ()
def law_holds.tw11289095316329951393 : Unit := ()
def law_holds.tw13250372474279835810 : Unit := ()
def law_holds.tw3012480247710183994 : Unit := ()
def law_holds.tw13780023080261437657 : Unit := ()
def law_holds.tw3956099054510807996 : Unit := ()
def law_holds.tw11666318101497114028 : Unit := ()
def law_holds.tw17237755526102222789 : Unit := ()
def law_holds.tw3959601488294255719 : Unit := ()
def law_holds.tw16873799427995575018 : Unit := ()
def law_holds.tw6765152471904792315 : Unit := ()
def law_holds.tw11097158420108258118 : Unit := ()
def law_holds.tw13301187468288870568 : Unit := ()
def law_holds.tw3756957479349018193 : Unit := ()
def law_holds.tw3595789414353437717 : Unit := ()
def law_holds.tw17830944117370523080 : Unit := ()
def law_holds.tw6674817763981286723 : Unit := ()
def law_holds.tw7407239408455114201 : Unit := ()
def law_holds.tw11470271118054631628 : Unit := ()
def law_holds.tw15806970514647361693 : Unit := ()
def law_holds.tw16099233806120587224 : Unit := ()
def law_holds.tw17942709131360195518 : Unit := ()
def law_holds.tw12223724995276690173 : Unit := ()
def law_holds.tw10350734228115807855 : Unit := ()
def law_holds.tw18269650602155537469 : Unit := ()
def law_holds.tw12732824653754844360 : Unit := ()
def law_holds.tw8369274380968253667 : Unit := ()
def law_holds.tw7767266014307106701 : Unit := ()
def law_holds.tw302768837105346163 : Unit := ()
def law_holds.tw2295933128562542503 : Unit := ()
def law_holds.tw6189876280036216102 : Unit := ()
def law_holds.tw9255152265573255198 : Unit := ()
def law_holds.tw15544829507116839252 : Unit := ()
def law_holds.tw12835091436910803158 : Unit := ()
def law_holds.tw3158129796062787159 : Unit := ()
def law_holds.tw2303879751551577860 : Unit := ()
def law_holds.tw745255978533919091 : Unit := ()
def law_holds.tw10362271348294423435 : Unit := ()
def law_holds.tw12115171985352901274 : Unit := ()
def law_holds.tw13342518741750886279 : Unit := ()
def law_holds.tw8417186165934385351 : Unit := ()
def law_holds.tw5914491427308094424 : Unit := ()
def law_holds.tw18203989763732354715 : Unit := ()
def law_holds.tw17264387287909652857 : Unit := ()
def law_holds.tw7019463264422422977 : Unit := ()
def law_holds.tw12419048959643632839 : Unit := ()
def law_holds.tw13882729330811710610 : Unit := ()
def law_holds.tw4030767218360268280 : Unit := ()
def law_holds.tw13087128984098923117 : Unit := ()
def law_holds.tw11347954631545130290 : Unit := ()
def law_holds.tw15522444059895599089 : Unit := ()
def law_holds.tw2387193687640843687 : Unit := ()
def law_holds.tw13190703287169160282 : Unit := ()
def law_holds.tw16978406815995349258 : Unit := ()
def law_holds.tw11315637435222106236 : Unit := ()
def law_holds.tw14957179600199517237 : Unit := ()
def law_holds.tw17470365217354309832 : Unit := ()
def law_holds.tw10027879121665395642 : Unit := ()
def law_holds.tw16691439815215545270 : Unit := ()
def law_holds.tw12687621791434340054 : Unit := ()
def law_holds.tw16381176275627223697 : Unit := ()
def law_holds.tw6723812968561706957 : Unit := ()
def law_holds.tw11714151634956498000 : Unit := ()
def law_holds.tw4594515247299072714 : Unit := ()
def law_holds.tw11803358882649189518 : Unit := ()
def law_holds.tw1722738952054099684 : Unit := ()
def law_holds.tw4207344185597920890 : Unit := ()
def law_holds.tw4741859662064258567 : Unit := ()
def law_holds.tw1172607208729018732 : Unit := ()
def law_holds.tw8285764192309689115 : Unit := ()
def law_holds.tw15341342317828512493 : Unit := ()
def law_holds.tw7636989558263936852 : Unit := ()
def law_holds.tw5907203647135998699 : Unit := ()
set_option Elab.async true
theorem law_holds : PySem.Challenge.rw_yd0004_02.Holds := by
  w_on; o_law; k_head; (case hw => w_witness2)
  k_with_none
  k_go0
  all_goals try k_fold
  have hK9 : _root_.Mine.law_holds.heap_1_39 = hb02.heap_1 := rfl
  (rename Frag.In _ _ => hKX9)
  rw [hK9] at hKX9
  clear hK9
  (rename Fr _ _ _ _ => hF0)
  obtain ⟨m0, hF1⟩ : ∃ m0, Fr _ _ _ m0 := ⟨_, hF0⟩
  clear hF0
  k_steps
end
end Mine
theorem PySem.Challenge.cw_yd0004_02_holds : PySem.Challenge.rw_yd0004_02.Holds := by
  exact Mine.law_holds
