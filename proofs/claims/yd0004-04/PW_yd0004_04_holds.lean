import PyProof.Rows.All
import Wide.All
import OpenK.AllK
import Wide.FinOn
import PySem.Challenge.RW_yd0004_04
open PySem PySem.W PyProof.Rows PySem.Calls PySem.Builtin
set_option Elab.async false
set_option maxRecDepth 100000
set_option maxHeartbeats 8000000
set_option linter.unusedSimpArgs false
set_option linter.unusedVariables false
namespace Mine
section
section
local macro_rules | `(tactic| o_head $_) => `(tactic| assumption)
set_option maxRecDepth 100000 in
set_option maxHeartbeats 8000000 in
theorem hb04 (h : OpenRow.Holds PySem.Challenge.rw_yd0004_04.row) : OpenRow.Holds PySem.Challenge.rw_yd0004_04.row := by
  k_head
end
end

section
/-! int(text, 2) -/
theorem typeCall_int2 (a b : Value) : checkTypeCall "int" ⟨[a, b], []⟩ = pure () := by kernel_rfl
theorem newCall_int2 (a b : Value) : checkBuiltinCall "int.__new__" ⟨[.type "int", a, b], []⟩ = pure () := by kernel_rfl
theorem args_init3 (a b c : Value) : argsOk "object.__init__" ⟨[a, b, c], []⟩ := by unfold argsOk; kernel_rfl

theorem wp_text2 {M : Model} {A : Around} {E : Value → Shared → Prop} {s : Shared} {Q : Value → Shared → Prop} {v : Value} {text : List Nat} {n : Int}
    (hs : (text.takeWhile (· != 0)).length ≤ 640) (hr : (int_private% "readNumeral") 0 2 (text.takeWhile (· != 0)) = (int_private% "Numeral.value") n)
    (ha : ((text.takeWhile (· != 0)).length == text.length) = true) (h : Q (.int n s.toks) { s with toks := s.toks + 1 }) :
    wpAny M A ((int_private% "intFromText") v text 2) Q E s := by
  obtain ⟨hp, g, d, tk, os⟩ := s
  repeat (any_goals (first
    | assumption
    | (with_reducible refine wpAny_ite_true (decide_eq_true hs) ?_)
    | (with_reducible refine wpAny_ite_true (decide_eq_true ha) ?_)
    | wp_step))
  all_goals (try rw [hr])
  all_goals (try dsimp only)
  repeat (any_goals (first
    | assumption
    | (with_reducible refine wpAny_ite_true (decide_eq_true hs) ?_)
    | (with_reducible refine wpAny_ite_true (decide_eq_true ha) ?_)
    | wp_step))

structure Hid (p : Prop) : Prop where
  out : p

theorem gives_text2 {x : Str} {u t2 : Tok} {n : Int} (h0 : x.cps.all (· < 128) = true) (hs : (x.cps.toList.takeWhile (· != 0)).length ≤ 640) (hr : (int_private% "readNumeral") 0 2 (x.cps.toList.takeWhile (· != 0)) = (int_private% "Numeral.value") n)
    (ha : ((x.cps.toList.takeWhile (· != 0)).length == x.cps.toList.length) = true) : Gives (Builtin.«int.__new__» ⟨[.type "int", .str x u, .int 2 t2], []⟩) (.int n) :=
  .of_wp fun M A E s Q h => by
    obtain ⟨hp, g, d, tk, os⟩ := s
    have f1 := F.conv_sub_int
    have f2 := F.madeHere_int
    have hk := Hid.mk (And.intro hs (And.intro hr ha))
    clear hs hr ha
    repeat (any_goals (first
      | assumption
      | ((with_reducible show wpAny _ _ ((int_private% "intFromText") _ _ _) _ _ _); (try rw [if_pos h0]); refine wp_text2 hk.out.1 hk.out.2.1 hk.out.2.2 ?_)
      | wp_step))
    all_goals exact ⟨_, rfl, h⟩

theorem call_int2 {prog : Program} {w : World} {A : Around} {E : Value → Shared → Prop} {s : Shared} {Q : Value → Shared → Prop} {x : Str} {t t2 : Tok} {n : Int}
    (h0 : x.cps.all (· < 128) = true) (hs : (x.cps.toList.takeWhile (· != 0)).length ≤ 640) (hr : (int_private% "readNumeral") 0 2 (x.cps.toList.takeWhile (· != 0)) = (int_private% "Numeral.value") n)
    (ha : ((x.cps.toList.takeWhile (· != 0)).length == x.cps.toList.length) = true) (h : Q (.int n s.toks) { s with toks := s.toks + 1 }) : wpAny (model prog w) A (call (.type "int") [.str x t, .int 2 t2]) Q E s :=
  callType_new F.called_int F.newNe_int (typeCall_int2 _ _) (newCall_int2 _ _) (fun obj => args_init3 obj _ _) F.entry_int_new (gives_text2 h0 hs hr ha).meets (show (Made.int n).post _ s from ⟨rfl, h⟩)

/-! pow(b, e, m) -/
theorem kind_pow : builtinKind "pow" = none := by decide +kernel
theorem plain_pow : plainId "pow" = true := by decide +kernel
theorem entry_pow : entryFor table "pow" = some Builtin.«pow» := entryFor_of_fast (by kernel_rfl)
theorem args_pow (a b c : Value) : argsOk "pow" ⟨[a, b, c], []⟩ := by unfold argsOk; kernel_rfl

theorem gives_pow3 (b : Int) (t : Tok) (e : Int) (u : Tok) (v : Tok) (he : (decide (e < 0)) = false) : Gives (Builtin.«int.__pow__» ⟨[.int b t, .int e u, .int 3329 v], []⟩) (.int (Builtin.powMod (b % (3329 : Int)).toNat e.natAbs 3329 : Nat)) :=
  .of_wp fun M A E s Q h => by
    obtain ⟨hp, g, d, tk, os⟩ := s
    repeat (any_goals (first | assumption | (with_reducible refine wpAny_ite_false he ?_) | wp_step))
    all_goals exact ⟨_, rfl, h⟩

theorem gives_powinv (t u v : Tok) : Gives (Builtin.«int.__pow__» ⟨[.int 128 t, .int (-1) u, .int 3329 v], []⟩) (.int 3303) :=
  .of_wp fun M A E s Q h => by
    obtain ⟨hp, g, d, tk, os⟩ := s
    repeat (any_goals (first | assumption | wp_step))
    all_goals exact ⟨.int 3303 tk, congrArg (fun z => Fin.done (Flow.ret (Value.int z tk))) (by decide +kernel), h⟩

theorem call_pow3 {prog : Program} {w : World} {A : Around} {E : Value → Shared → Prop} {s : Shared} {Q : Value → Shared → Prop} {b e r : Int} {t u v : Tok}
    (gi : Gives (Builtin.«int.__pow__» ⟨[.int b t, .int e u, .int 3329 v], []⟩) (.int r)) (h : ∀ t' tk', Q (.int r t') { s with toks := tk' }) :
    wpAny (model prog w) A (call (.builtin "pow") [.int b t, .int e u, .int 3329 v]) Q E s := by
  refine call_function_entry kind_pow plain_pow entry_pow (args_pow _ _ _) ?_
  obtain ⟨hp, g, d, tk, os⟩ := s
  have hT : (⟨hp, g, d, tk, os⟩ : Shared).TypeIs (.int b t) "int" := rfl
  have f3 := F.slot_int_pow.lookup
  have f4 := F.slot_int_pow.bind (.int b t)
  have f5 : typeLookup (Value.type "int") (Str.ofString "__pow__") = pure (some (.builtin "int.__pow__")) := by rw [typeLookup_type, builtinLookup_eq_fast]; kernel_rfl
  repeat (any_goals (first | assumption | ((with_reducible show wpAny _ _ (call (Value.builtin "int.__pow__") _ _) _ _ _); refine call_gives F.slot_int_pow hT F.entry_int_pow (F.args_int_pow_3 _ _ _) gi ?_; dsimp only [Made.post]) | wp_step))
  all_goals exact ⟨_, rfl, h _ _⟩

/-! the text of _br -/
noncomputable def numVal (r : int_private% "Numeral") : Option Int := (int_private% "Numeral.rec") (motive := fun _ => Option Int) none (fun _ => none) none (fun i => some i) r
theorem numVal_some {r : int_private% "Numeral"} {v : Int} (h : numVal r = some v) : r = (int_private% "Numeral.value") v := by
  unfold numVal at h
  cases r <;> simp at h
  subst h; rfl
def brA (i : Int) : Str := baseText "0b" 2 (Builtin.bitAnd i (2 ^ Int.toNat 7 - 1))
def brB (i : Int) : Str := Txt.zfill (Txt.slice (brA i) (some 2) none) 7
def brC (i : Int) : Str := Txt.sliceBy (brB i) none none (-1, 0)
noncomputable def brOk (i : Int) : Bool := decide ((brA i).length ≤ 20) && decide ((brB i).length ≤ 20) && (brC i).cps.all (· < 128) && decide (((brC i).cps.toList.takeWhile (· != 0)).length ≤ 640) &&
  (((brC i).cps.toList.takeWhile (· != 0)).length == (brC i).cps.toList.length) &&
  (match numVal ((int_private% "readNumeral") 0 2 ((brC i).cps.toList.takeWhile (· != 0))) with | some v => decide (0 ≤ v) && decide (v < 128) | none => false)
theorem brOk_all : ∀ n : Nat, n < 128 → brOk (n : Int) = true := by decide +kernel
theorem brOk_of {i : Int} (h0 : 0 ≤ i) (h1 : i < 128) : brOk i = true := by
  obtain ⟨n, rfl⟩ := Int.eq_ofNat_of_zero_le h0
  exact brOk_all n (by omega)
@[irreducible] noncomputable def brV (i : Int) : Int := (numVal ((int_private% "readNumeral") 0 2 ((brC i).cps.toList.takeWhile (· != 0)))).getD 0
theorem brFacts {i : Int} (h0 : 0 ≤ i) (h1 : i < 128) : (brA i).length ≤ 20 ∧ (brB i).length ≤ 20 ∧ (brC i).cps.all (· < 128) = true ∧ ((brC i).cps.toList.takeWhile (· != 0)).length ≤ 640 ∧
    (((brC i).cps.toList.takeWhile (· != 0)).length == (brC i).cps.toList.length) = true ∧ 0 ≤ brV i ∧ brV i < 128 ∧ (int_private% "readNumeral") 0 2 ((brC i).cps.toList.takeWhile (· != 0)) = (int_private% "Numeral.value") (brV i) := by
  have h := brOk_of h0 h1
  unfold brOk at h
  simp only [Bool.and_eq_true, decide_eq_true_eq] at h
  obtain ⟨⟨⟨⟨⟨a, b⟩, c⟩, d⟩, e⟩, f⟩ := h
  refine ⟨a, b, c, d, e, ?_⟩
  unfold brV
  split at f
  · rename_i v hv
    simp only [Bool.and_eq_true, decide_eq_true_eq] at f
    rw [hv]
    exact ⟨f.1, f.2, numVal_some hv⟩
  · cases f
theorem sz20 {x : Str} (h : x.length ≤ 20) : x.length ≤ sizeLine := Nat.le_trans h (by rw [sizeLine_eq]; decide)
theorem brA_size {i : Int} (h0 : 0 ≤ i) (h1 : i < 128) : (baseText "0b" 2 (Builtin.bitAnd i (2 ^ Int.toNat 7 - 1))).length ≤ sizeLine := sz20 (brFacts h0 h1).1
theorem brB_size {i : Int} (h0 : 0 ≤ i) (h1 : i < 128) : (Txt.zfill (Txt.slice (baseText "0b" 2 (Builtin.bitAnd i (2 ^ Int.toNat 7 - 1))) (some 2) none) 7).length ≤ sizeLine := sz20 (brFacts h0 h1).2.1
theorem call_br_int {prog : Program} {w : World} {A : Around} {E : Value → Shared → Prop} {s : Shared} {Q : Value → Shared → Prop} {i : Int} {t t2 t3 : Tok} (h0 : 0 ≤ i) (h1 : i < 128)
    (h : Q (.int (brV i) s.toks) { s with toks := s.toks + 1 }) :
    wpAny (model prog w) A (call (.type "int") [.str (Txt.sliceBy (Txt.zfill (Txt.slice (baseText "0b" 2 (Builtin.bitAnd i (2 ^ Int.toNat 7 - 1))) (some 2) none) 7) none none (-1, t3)) t, .int 2 t2]) Q E s := by
  obtain ⟨_, _, c, d, e, v0, v1, r⟩ := brFacts h0 h1
  exact call_int2 (x := brC i) c d r e h
theorem brV_dec {i : Int} (h0 : 0 ≤ i) (h1 : i < 128) : decide (brV i < 0) = false := decide_eq_false (Int.not_lt.mpr (brFacts h0 h1).2.2.2.2.2.1)
end

section
theorem meets_bytes_out (b : Array UInt8) (i : Int) (t u : Tok) (hr : Bytes.fitsIndex i = true) (hb : (seqIndex? i b.size).bind (b[·]?) = none) :
    Meets («bytes.__getitem__» ⟨[.bytes b t, .int i u], []⟩) (raisesNew "IndexError") :=
  .of_wp fun prog w A R s h => by
    show wpAny (model prog w) _ (Bytes.subscript? (.int i u) >>= fun r => _) _ _ s
    refine wpAny_bind ?_
    unfold Bytes.subscript?
    refine wpAny_bind (wpAny_specialOf (typeIs_int s i u) F.slot_int_index.lookup ?_)
    show wpAny (model prog w) _ (if (!Bytes.fitsIndex i) = true then _ else pure (some i)) _ _ s
    rw [hr]
    refine wpAny_pure ?_
    show wpAny (model prog w) _ (match (seqIndex? i b.size).bind (b[·]?) with | some x => retInt x.toNat | none => _) _ _ s
    rw [hb]
    first
      | exact wpAny_rule (by exact_raiseError plainExc_IndexError h.1 h.2)
      | exact wpAny_bind (wpAny_rule (by exact_raiseError plainExc_IndexError h.1 h.2))
      | exact wpAny_bind (wpAny_rule (wpAny_bind (by exact_raiseError plainExc_IndexError h.1 h.2)))

theorem item_or {prog : Program} {w : World} {A : Around} {E : Value → Shared → Prop} {s : Shared} {Q : Value → Shared → Prop} {value slice : PySem.Expr} {b : Array UInt8} {t ui : Tok} {ks : List Int} {i : Int}
    (hh : A.handled = none) (hk : KBw.bInts b = ks) (hfit : ks.length ≤ 100000) (h0 : 0 ≤ i) (h9 : i ≤ 1000000)
    (h : i < (ks.length : Int) → 0 ≤ ks.getD i.toNat 0 → ks.getD i.toNat 0 < 256 → ∀ t' k, Q (.int (ks.getD i.toNat 0) t') { s with toks := k })
    (hE : (ks.length : Int) ≤ i → ∀ h' tk e, Heap.NewExc s.heap h' e "IndexError" → E (.ref e) { s with heap := h', toks := tk })
    (hs : subscripted slice false (.bytes b t) (.int i ui) = operate [.bytes b t, .int i ui] (getItem (.bytes b t) (.int i ui)) := by with_unfolding_all rfl)
    (ht : ∀ r, letTemporaryGo value (.bytes b t) r = pure () := by intro _; with_unfolding_all rfl) : wpAny (model prog w) A (subscriptTail value slice (.bytes b t) (.int i ui)) Q E s := by
  by_cases h1 : i < (ks.length : Int)
  · exact KBw.item_K hk (by omega) h0 h1 (fun t' k a c => h h1 a c t' k) hs ht
  · refine tail_of_ItemOn ⟨"bytes", _, FB.slot_bytes_getitem.lookup, typeIs_bytes _ _ _, ?_⟩ hs ht
    subst hk
    rw [KBw.ints_length] at h1
    refine getItem_meets (typeIs_bytes _ _ _) (by decide) FB.slot_bytes_getitem FB.entry_bytes_getitem (FB.args_bytes_getitem_2 _ _) (meets_bytes_out b i t ui ?_ ?_) ⟨hh, ?_⟩
    · simp only [Bytes.fitsIndex, Bool.and_eq_true, decide_eq_true_eq]; omega
    · have hn : ¬ i < 0 := by omega
      simp [seqIndex?, hn, h0]
      intro hx; omega
    · rw [KBw.ints_length] at hE
      exact hE (by omega)

section
variable {M : Model} {A : Around} {E : Value → Shared → Prop} {s : Shared} {K : Frag} {env : Env} {pos : Pos} {x C : Addr} {ox : Obj} {od : Option Obj} {first : List Value} {Q : Value → Shared → Prop}
theorem kco_callWith_KW {f : Addr} {e : PySem.Expr} {rest : List PySem.Expr} {kws : List Keyword} (_X : K.In s.heap) (_I : InstAt s.heap x ox C od) (hd : ox.data = .plain) (_hs : findIn K (.ref C) "__call__" = some (some (.ref f)))
    (hall : (backToKw pos (keywordEach kws env)).all (·.1.isSome) = true)
    (h : wpAny M A (spliced (backTo pos (starEach (e :: rest) env))) (fun vs s₁ => wpAny M A (evalAll ((backToKw pos (keywordEach kws env)).map (·.2)))
      (fun ks s₂ => kco_P K x C ox od s₂.heap ∧ wpAny M A (call (.ref x) (first ++ vs) (((backToKw pos (keywordEach kws env)).filterMap (·.1)).zip ks)) Q E s₂) E s₁) E s)
    (hplain : ((backTo pos (starEach (e :: rest) env)).any (·.1) || (backToKw pos (keywordEach kws env)).any (·.1.isNone)) = false := by rfl) (he : starEach (e :: rest) env = (false, eval e env) :: starEach rest env := by rfl) :
    wpAny M A (callWith pos (.ref x) first (backTo pos (starEach (e :: rest) env)) (backToKw pos (keywordEach kws env))) Q E s :=
  kco_callWith_of hplain hd (evalArgs_kw2 hall h he)
end

theorem raisedN_sub {base : Heap} {l : List Env} {e : Addr} {cls : Value} {news news' : List (Addr × Obj)} {h : Heap} (R : RaisedN base l e cls news h) (hs : ∀ p ∈ news', p ∈ news) : RaisedN base l e cls news' h := by
  obtain ⟨B, a0, h1, h2, h3⟩ := R
  exact ⟨B, a0, h1, fun q hq => h2 q (hs q hq), h3⟩
theorem news_sub {h₀ : Heap} {L : Addr} {h : Heap} {l l' : List (Addr × Obj)} (N : News h₀ L h l) (hs : ∀ p ∈ l', p ∈ l) : News h₀ L h l' := fun p hp => N p (hs p hp)
theorem sub_tail2 {α : Type} {a b : α} {l : List α} : ∀ p ∈ l, p ∈ a :: b :: l := fun _ h => .tail _ (.tail _ h)
theorem sub_mid4 {α : Type} {a b c d : α} {l : List α} : ∀ p ∈ a :: b :: c :: l, p ∈ a :: b :: c :: d :: l := fun p h => by
  simp only [List.mem_cons] at h ⊢
  rcases h with h | h | h | h
  · exact .inl h
  · exact .inr (.inl h)
  · exact .inr (.inr (.inl h))
  · exact .inr (.inr (.inr (.inr h)))
end

section
/-! what ntt_sample answers, in plain lists -/
def cands : List Int → List Int
  | a :: b :: c :: r => (a + 256 * (b.fmod 16)) :: (b.fdiv 16 + 16 * c) :: cands r
  | _ => []
@[irreducible] def keeps (o : List Int) : List Int := (cands o).filter fun d => decide (d < 3329)
theorem cands_append : ∀ (l r : List Int), l.length % 3 = 0 → cands (l ++ r) = cands l ++ cands r
  | [], r, _ => by simp [cands]
  | [a], r, h => by simp at h
  | [a, b], r, h => by simp at h
  | a :: b :: c :: l, r, h => by
    simp only [List.cons_append, cands]
    rw [cands_append l r (by simp only [List.length_cons] at h; omega)]
theorem keeps_append (l r : List Int) (h : l.length % 3 = 0) : keeps (l ++ r) = keeps l ++ keeps r := by
  unfold keeps
  rw [cands_append l r h, List.filter_append]
def dA (o : List Int) (k : Nat) : Int := o.getD (3 * k) 0 + 256 * (o.getD (3 * k + 1) 0).fmod 16
def dB (o : List Int) (k : Nat) : Int := (o.getD (3 * k + 1) 0).fdiv 16 + 16 * o.getD (3 * k + 2) 0
theorem take3 (o : List Int) (k : Nat) (h : 3 * k + 3 ≤ o.length) : o.take (3 * (k + 1)) = o.take (3 * k) ++ [o.getD (3 * k) 0, o.getD (3 * k + 1) 0, o.getD (3 * k + 2) 0] := by
  have e : 3 * (k + 1) = 3 * k + 1 + 1 + 1 := by omega
  rw [e, List.take_add_one, List.take_add_one, List.take_add_one]
  have h0 : 3 * k < o.length := by omega
  have h1 : 3 * k + 1 < o.length := by omega
  have h2 : 3 * k + 1 + 1 < o.length := by omega
  have h2' : 3 * k + 2 < o.length := h2
  simp only [List.getElem?_eq_getElem h0, List.getElem?_eq_getElem h1, List.getElem?_eq_getElem h2, List.getElem?_eq_getElem h2', List.getD_eq_getElem?_getD, Option.toList_some, Option.getD_some, List.append_assoc, List.cons_append, List.nil_append]
theorem keeps_step (o : List Int) (k : Nat) (h : 3 * k + 3 ≤ o.length) :
    keeps (o.take (3 * (k + 1))) = keeps (o.take (3 * k)) ++ ((if dA o k < 3329 then [dA o k] else []) ++ (if dB o k < 3329 then [dB o k] else [])) := by
  rw [take3 o k h, keeps_append _ _ (by rw [List.length_take]; omega)]
  congr 1
  unfold keeps dA dB
  simp only [cands, List.filter_cons, List.filter_nil, decide_eq_true_eq]
  split <;> split <;> rfl

@[irreducible] def kpt (o : List Int) (n : Nat) (k : Nat) : List Int := (keeps (o.take (3 * k))).take n
def SInv (o : List Int) (n : Int) (i j : Int) (cs : List Int) : Prop :=
  ∃ k : Nat, i = 3 * (k : Int) ∧ 3 * k ≤ o.length ∧ j = ((kpt o n.toNat k).length : Int) ∧ cs = kpt o n.toNat k ++ List.replicate (n.toNat - (kpt o n.toNat k).length) 0

theorem kpt_le (o : List Int) (n k : Nat) : (kpt o n k).length ≤ n := by
  unfold kpt; rw [List.length_take]; omega
theorem SInv.facts {o : List Int} {n i j : Int} {cs : List Int} (hn : 0 ≤ n) (h : SInv o n i j cs) : 0 ≤ i ∧ i ≤ (o.length : Int) ∧ 0 ≤ j ∧ j ≤ n ∧ (cs.length : Int) = n := by
  obtain ⟨k, h1, h2, h3, h4⟩ := h
  have := kpt_le o n.toNat k
  subst h4
  rw [List.length_append, List.length_replicate]
  omega
theorem SInv.idx {o : List Int} {n i j : Int} {cs : List Int} (h : SInv o n i j cs) : 0 ≤ i ∧ i ≤ (o.length : Int) ∧ 0 ≤ j ∧ j ≤ (n.toNat : Int) ∧ cs.length = n.toNat := by
  obtain ⟨k, h1, h2, h3, h4⟩ := h
  have := kpt_le o n.toNat k
  subst h4
  rw [List.length_append, List.length_replicate]
  omega
def SInvF (o : List Int) (n i j : Int) (cs : List Int) : Prop := SInv o n i j cs
theorem SInv.full {o : List Int} {n i j : Int} {cs : List Int} (h : SInv o n i j cs) : SInv o n i j cs ∧ 0 ≤ i ∧ i ≤ (o.length : Int) ∧ 0 ≤ j ∧ cs.length = n.toNat := ⟨h, h.idx.1, h.idx.2.1, h.idx.2.2.1, h.idx.2.2.2.2⟩
theorem SInv_start (o : List Int) (n : Int) : SInv o n 0 0 (List.replicate n.toNat 0) := by
  refine ⟨0, by simp, by simp, by simp [kpt, keeps, cands], by simp [kpt, keeps, cands]⟩

theorem SInv_start' (o : List Int) (n : Int) : SInv o n 0 0 (List.map (fun _ => 0) (PySem.W.rangeKs 0 (n - 0).toNat)) := by
  have e : List.map (fun _ => (0 : Int)) (PySem.W.rangeKs 0 (n - 0).toNat) = List.replicate n.toNat 0 := by
    rw [List.map_const', PySem.W.rangeKs_length]; simp
  rw [e]
  exact SInv_start o n
/-- what one turn makes of the list -/
theorem kpt_step (o : List Int) (n k : Nat) (h : 3 * k + 3 ≤ o.length) (hlt : (kpt o n k).length < n) :
    kpt o n (k + 1) = (kpt o n k ++ ((if dA o k < 3329 then [dA o k] else []) ++ (if dB o k < 3329 then [dB o k] else []))).take n := by
  unfold kpt at hlt ⊢
  have hl : (keeps (o.take (3 * k))).length < n := by
    rw [List.length_take] at hlt; omega
  rw [keeps_step o k h, List.take_of_length_le (Nat.le_of_lt hl)]
theorem set_rep (t : List Int) (m : Nat) (d : Int) (h : 0 < m) : (t ++ List.replicate m 0).set t.length d = (t ++ [d]) ++ List.replicate (m - 1) 0 := by
  rw [List.set_append]
  simp only [Nat.lt_irrefl, if_false, Nat.sub_self]
  cases m with
  | zero => omega
  | succ m => simp [List.replicate_succ]

section
variable {o : List Int} {n i j : Int} {cs : List Int} {a b c : Int}
/-- the turn's numbers, as the walk says them -/
theorem turn_open (hn : 0 ≤ n) (h : SInv o n i j cs) (hj : j < n) (hi : i + 2 < (o.length : Int)) (ha : a = o.getD i.toNat 0) (hb : b = o.getD (i + 1).toNat 0) (hc : c = o.getD (i + 2).toNat 0) :
    ∃ k : Nat, i = 3 * (k : Int) ∧ 3 * k + 3 ≤ o.length ∧ j = ((kpt o n.toNat k).length : Int) ∧ cs = kpt o n.toNat k ++ List.replicate (n.toNat - (kpt o n.toNat k).length) 0 ∧
      a + 256 * b.fmod 16 = dA o k ∧ b.fdiv 16 + 16 * c = dB o k ∧ (kpt o n.toNat k).length < n.toNat := by
  obtain ⟨k, h1, h2, h3, h4⟩ := h
  refine ⟨k, h1, by omega, h3, h4, ?_, ?_, by omega⟩
  · have e1 : i.toNat = 3 * k := by omega
    have e2 : (i + 1).toNat = 3 * k + 1 := by omega
    rw [ha, hb, e1, e2]; rfl
  · have e1 : (i + 2).toNat = 3 * k + 2 := by omega
    have e2 : (i + 1).toNat = 3 * k + 1 := by omega
    rw [hc, hb, e1, e2]; rfl
/-- neither -/
theorem turn_A (hn : 0 ≤ n) (h : SInv o n i j cs) (hj : j < n) (hi : i + 2 < (o.length : Int)) (ha : a = o.getD i.toNat 0) (hb : b = o.getD (i + 1).toNat 0) (hc : c = o.getD (i + 2).toNat 0)
    (h1 : ¬ a + 256 * b.fmod 16 < 3329) (h2 : ¬ b.fdiv 16 + 16 * c < 3329) : SInv o n (i + 3) j cs := by
  obtain ⟨k, e1, e2, e3, e4, f1, f2, hl⟩ := turn_open hn h hj hi ha hb hc
  rw [f1] at h1; rw [f2] at h2
  have e : kpt o n.toNat (k + 1) = kpt o n.toNat k := by
    rw [kpt_step o _ k e2 hl, if_neg h1, if_neg h2]
    simp only [List.append_nil]
    exact List.take_of_length_le (Nat.le_of_lt hl)
  exact ⟨k + 1, by omega, by omega, by rw [e]; exact e3, by rw [e]; exact e4⟩
/-- the first alone -/
theorem turn_B (hn : 0 ≤ n) (h : SInv o n i j cs) (hj : j < n) (hi : i + 2 < (o.length : Int)) (ha : a = o.getD i.toNat 0) (hb : b = o.getD (i + 1).toNat 0) (hc : c = o.getD (i + 2).toNat 0)
    (h1 : a + 256 * b.fmod 16 < 3329) (h2 : ¬ b.fdiv 16 + 16 * c < 3329) : SInv o n (i + 3) (j + 1) (cs.set j.toNat (a + 256 * b.fmod 16)) := by
  obtain ⟨k, e1, e2, e3, e4, f1, f2, hl⟩ := turn_open hn h hj hi ha hb hc
  rw [f1] at h1 ⊢; rw [f2] at h2
  have e : kpt o n.toNat (k + 1) = kpt o n.toNat k ++ [dA o k] := by
    rw [kpt_step o _ k e2 hl, if_pos h1, if_neg h2]
    simp only [List.append_nil]
    exact List.take_of_length_le (by simp only [List.length_append, List.length_cons, List.length_nil]; omega)
  refine ⟨k + 1, by omega, by omega, ?_, ?_⟩
  · rw [e, List.length_append]; simp only [List.length_cons, List.length_nil]; omega
  · have ej : j.toNat = (kpt o n.toNat k).length := by omega
    rw [e4, ej, set_rep _ _ _ (by omega), e]
    congr 2
    simp only [List.length_append, List.length_cons, List.length_nil]; omega
/-- the second alone -/
theorem turn_C (hn : 0 ≤ n) (h : SInv o n i j cs) (hj : j < n) (hi : i + 2 < (o.length : Int)) (ha : a = o.getD i.toNat 0) (hb : b = o.getD (i + 1).toNat 0) (hc : c = o.getD (i + 2).toNat 0)
    (h1 : ¬ a + 256 * b.fmod 16 < 3329) (h2 : b.fdiv 16 + 16 * c < 3329) : SInv o n (i + 3) (j + 1) (cs.set j.toNat (b.fdiv 16 + 16 * c)) := by
  obtain ⟨k, e1, e2, e3, e4, f1, f2, hl⟩ := turn_open hn h hj hi ha hb hc
  rw [f1] at h1; rw [f2] at h2 ⊢
  have e : kpt o n.toNat (k + 1) = kpt o n.toNat k ++ [dB o k] := by
    rw [kpt_step o _ k e2 hl, if_neg h1, if_pos h2]
    simp only [List.nil_append]
    exact List.take_of_length_le (by simp only [List.length_append, List.length_cons, List.length_nil]; omega)
  refine ⟨k + 1, by omega, by omega, ?_, ?_⟩
  · rw [e, List.length_append]; simp only [List.length_cons, List.length_nil]; omega
  · have ej : j.toNat = (kpt o n.toNat k).length := by omega
    rw [e4, ej, set_rep _ _ _ (by omega), e]
    congr 2
    simp only [List.length_append, List.length_cons, List.length_nil]; omega
/-- both -/
theorem turn_D (hn : 0 ≤ n) (h : SInv o n i j cs) (hj : j < n) (hi : i + 2 < (o.length : Int)) (ha : a = o.getD i.toNat 0) (hb : b = o.getD (i + 1).toNat 0) (hc : c = o.getD (i + 2).toNat 0)
    (h1 : a + 256 * b.fmod 16 < 3329) (h2 : b.fdiv 16 + 16 * c < 3329) (hj1 : j + 1 < n) : SInv o n (i + 3) (j + 1 + 1) ((cs.set j.toNat (a + 256 * b.fmod 16)).set (j + 1).toNat (b.fdiv 16 + 16 * c)) := by
  obtain ⟨k, e1, e2, e3, e4, f1, f2, hl⟩ := turn_open hn h hj hi ha hb hc
  rw [f1] at h1 ⊢; rw [f2] at h2 ⊢
  have e : kpt o n.toNat (k + 1) = kpt o n.toNat k ++ [dA o k] ++ [dB o k] := by
    rw [kpt_step o _ k e2 hl, if_pos h1, if_pos h2, List.append_assoc]
    exact List.take_of_length_le (by simp only [List.length_append, List.length_cons, List.length_nil]; omega)
  refine ⟨k + 1, by omega, by omega, ?_, ?_⟩
  · rw [e]; simp only [List.length_append, List.length_cons, List.length_nil]; omega
  · have ej : j.toNat = (kpt o n.toNat k).length := by omega
    have ej1 : (j + 1).toNat = (kpt o n.toNat k ++ [dA o k]).length := by simp only [List.length_append, List.length_cons, List.length_nil]; omega
    rw [e4, ej, set_rep _ _ _ (by omega), ej1, set_rep _ _ _ (by omega), e]
    congr 2
    simp only [List.length_append, List.length_cons, List.length_nil]; omega
/-- both, the second one too many -/
theorem turn_E (hn : 0 ≤ n) (h : SInv o n i j cs) (hj : j < n) (hi : i + 2 < (o.length : Int)) (ha : a = o.getD i.toNat 0) (hb : b = o.getD (i + 1).toNat 0) (hc : c = o.getD (i + 2).toNat 0)
    (h1 : a + 256 * b.fmod 16 < 3329) (h2 : b.fdiv 16 + 16 * c < 3329) (hj1 : ¬ j + 1 < n) : SInv o n (i + 3) (j + 1) (cs.set j.toNat (a + 256 * b.fmod 16)) := by
  obtain ⟨k, e1, e2, e3, e4, f1, f2, hl⟩ := turn_open hn h hj hi ha hb hc
  rw [f1] at h1 ⊢; rw [f2] at h2
  have e : kpt o n.toNat (k + 1) = kpt o n.toNat k ++ [dA o k] := by
    rw [kpt_step o _ k e2 hl, if_pos h1, if_pos h2, ← List.append_assoc]
    rw [List.take_append_of_le_length (by simp only [List.length_append, List.length_cons, List.length_nil]; omega)]
    exact List.take_of_length_le (by simp only [List.length_append, List.length_cons, List.length_nil]; omega)
  refine ⟨k + 1, by omega, by omega, ?_, ?_⟩
  · rw [e, List.length_append]; simp only [List.length_cons, List.length_nil]; omega
  · have ej : j.toNat = (kpt o n.toNat k).length := by omega
    rw [e4, ej, set_rep _ _ _ (by omega), e]
    congr 2
    simp only [List.length_append, List.length_cons, List.length_nil]; omega
end
theorem keeps_mono (o : List Int) (k : Nat) : ∃ r, keeps o = keeps (o.take (3 * k)) ++ r := by
  by_cases h : 3 * k ≤ o.length
  · refine ⟨keeps (o.drop (3 * k)), ?_⟩
    rw [← keeps_append _ _ (by rw [List.length_take]; omega), List.take_append_drop]
  · exact ⟨[], by rw [List.take_of_length_le (by omega), List.append_nil]⟩
/-- the loop's end: enough was found -/
theorem SInv_done {o : List Int} {n i j : Int} {cs : List Int} (hn : 0 ≤ n) (h : SInv o n i j cs) (hj : ¬ j < n) : n.toNat ≤ (keeps o).length ∧ cs = (keeps o).take n.toNat := by
  obtain ⟨k, h1, h2, h3, h4⟩ := h
  obtain ⟨r, hr⟩ := keeps_mono o k
  have hl := kpt_le o n.toNat k
  have he : (kpt o n.toNat k).length = n.toNat := by omega
  have hk : n.toNat ≤ (keeps (o.take (3 * k))).length := by unfold kpt at he; rw [List.length_take] at he; omega
  refine ⟨by rw [hr, List.length_append]; omega, ?_⟩
  rw [h4, he, Nat.sub_self, List.replicate_zero, List.append_nil, hr, List.take_append_of_le_length hk]
  unfold kpt; rfl
/-- the octets ran out: too few -/
theorem SInv_out {o : List Int} {n i j : Int} {cs : List Int} (hn : 0 ≤ n) (h : SInv o n i j cs) (hj : j < n) (hi : (o.length : Int) ≤ i + 2) : (keeps o).length < n.toNat := by
  obtain ⟨k, h1, h2, h3, h4⟩ := h
  have e : keeps o = keeps (o.take (3 * k)) := by
    have hd : keeps o = keeps (o.take (3 * k)) ++ keeps (o.drop (3 * k)) := by
      rw [← keeps_append _ _ (by rw [List.length_take]; omega), List.take_append_drop]
    have hz : keeps (o.drop (3 * k)) = [] := by
      have hl : (o.drop (3 * k)).length ≤ 2 := by rw [List.length_drop]; omega
      generalize o.drop (3 * k) = l at hl
      match l, hl with
      | [], _ => unfold keeps; rfl
      | [_], _ => unfold keeps; rfl
      | [_, _], _ => unfold keeps; rfl
      | _ :: _ :: _ :: _, h => simp at h
    rw [hd, hz, List.append_nil]
  rw [e]
  unfold kpt at h3
  rw [List.length_take] at h3
  omega
end

section
open PySem.W
def valL : List Int → Int
  | [] => 0
  | a :: r => a + 256 * valL r
theorem valL_append (l r : List Int) : valL (l ++ r) = valL l + 256 ^ l.length * valL r := by
  induction l with
  | nil => simp [valL]
  | cons a l ih =>
    simp only [List.cons_append, valL, ih, List.length_cons]
    rw [Int.mul_add, Int.pow_succ, Int.add_assoc, Int.mul_comm (256 ^ l.length) 256, Int.mul_assoc]
def PInv (pre : List Int) (whole weight : Int) : Prop := whole = valL pre ∧ weight = 256 ^ pre.length
theorem PInv_start : PInv [] 0 1 := ⟨rfl, rfl⟩
theorem PInv_step {pre : List Int} {whole weight k : Int} (h : PInv pre whole weight) : PInv (pre ++ [k]) (whole + k * weight) (256 * weight) := by
  obtain ⟨h1, h2⟩ := h
  subst h1 h2
  refine ⟨?_, ?_⟩
  · rw [valL_append]; simp only [valL]; rw [Int.mul_comm k]; simp
  · rw [List.length_append]; simp only [List.length_cons, List.length_nil]; rw [Int.pow_succ, Int.mul_comm]
/-- the law's second loop -/
@[irreducible] def stepF (n : Int) (st : List Int × Int × Int) (g : Int) : List Int × Int × Int :=
  if (st.1.length : Int) < n then
    (if st.2.2.fmod 4096 < 3329 then (st.1 ++ [st.2.2.fmod 4096], 3 * (g.fdiv 2 + 1), st.2.2.fdiv 4096) else (st.1, st.2.1, st.2.2.fdiv 4096))
  else st
def CInv (W n : Int) (pre kept : List Int) (used whole : Int) : Prop := (kept, used, whole) = pre.foldl (stepF n) ([], 0, W)
theorem CInv_start (W n : Int) : CInv W n [] [] 0 W := rfl
section
variable {W n : Int} {pre kept : List Int} {used whole g : Int}
theorem CInv_A (h : CInv W n pre kept used whole) (h1 : (kept.length : Int) < n) (h2 : whole.fmod 4096 < 3329) : CInv W n (pre ++ [g]) (kept ++ [whole.fmod 4096]) (3 * (g.fdiv 2 + 1)) (whole.fdiv 4096) := by
  unfold CInv at h ⊢
  rw [List.foldl_append, ← h]; simp [stepF, h1, h2]
theorem CInv_B (h : CInv W n pre kept used whole) (h1 : (kept.length : Int) < n) (h2 : ¬ whole.fmod 4096 < 3329) : CInv W n (pre ++ [g]) kept used (whole.fdiv 4096) := by
  unfold CInv at h ⊢
  rw [List.foldl_append, ← h]; simp [stepF, h1, h2]
theorem CInv_C (h : CInv W n pre kept used whole) (h1 : ¬ (kept.length : Int) < n) : CInv W n (pre ++ [g]) kept used whole := by
  unfold CInv at h ⊢
  rw [List.foldl_append, ← h]; simp [stepF, h1]
end
end

section
/-- a built-in exception lands in the law's own handler; the frame may have cells -/
theorem landed {prog : Program} {w : World} {A₀ : Around} {E : Value → Shared → Prop} {s' : Shared} {h₀ h : Heap} {outer : List Env} {L a e : Addr} {m : Str → Option Value} {name : Str} {nm : List (Str × NameKind)} {ig ic : Bool} {mo : List (Str × Const)} {cd : Value} {cl : List (Str × Addr)} {K : Frag}
    {b₀ : Stmt} {suite : List Stmt} {pos np : Pos} {rest : List ExceptHandler} {Q : Flow → Shared → Prop} {news : List (Addr × Obj)} {p : Program} {loose : List Str} {mg mb : Str → Option Value}
    (B : Below A₀ h₀ outer h₀) (F : Fr h₀ L h m) (hsm : h.UpToSlots s'.heap) (R : RaisedN h₀ (envX name { kind := .function, names := nm, isGenerator := ig, isCoroutine := ic, more := mo } L a cd cl :: outer) e (.type "IndexError") news s'.heap)
    (X : K.In h₀) (T : TopRead p loose mg mb h₀) (hns : nsIn K mainGlobals (Str.ofString "IndexError") = some none)
    (hx : (envX name { kind := .function, names := nm, isGenerator := ig, isCoroutine := ic, more := mo } L a cd cl).kindOf (Str.ofString "IndexError") = some .globalImplicit)
    (k : ∀ h', Fr h₀ L h' m → News h₀ L h' news →
      wpAny (model prog w) ((A₀.deeper (envX name { kind := .function, names := nm, isGenerator := ig, isCoroutine := ic, more := mo } L a cd cl)).mark (some (.ref e))) (execs (b₀ :: suite) (envX name { kind := .function, names := nm, isGenerator := ig, isCoroutine := ic, more := mo } L a cd cl)) Q E { s' with heap := h' })
    (hE : PassesOwnAt (model prog w) ((A₀.deeper (envX name { kind := .function, names := nm, isGenerator := ig, isCoroutine := ic, more := mo } L a cd cl)).mark (some (.ref e))) (A₀.deeper (envX name { kind := .function, names := nm, isGenerator := ig, isCoroutine := ic, more := mo } L a cd cl)) (envX name { kind := .function, names := nm, isGenerator := ig, isCoroutine := ic, more := mo } L a cd cl) E := by passes_own) :
    wpAny (model prog w) (A₀.deeper (envX name { kind := .function, names := nm, isGenerator := ig, isCoroutine := ic, more := mo } L a cd cl)) (noteFrame (.ref e) (envX name { kind := .function, names := nm, isGenerator := ig, isCoroutine := ic, more := mo } L a cd cl))
      (fun _ s₂ => wpAny (model prog w) (A₀.deeper (envX name { kind := .function, names := nm, isGenerator := ig, isCoroutine := ic, more := mo } L a cd cl)) (setFlight (.ref e) none) (fun _ s₃ =>
        wpAny (model prog w) (A₀.deeper (envX name { kind := .function, names := nm, isGenerator := ig, isCoroutine := ic, more := mo } L a cd cl)) (handleBy (.ref e) (envX name { kind := .function, names := nm, isGenerator := ig, isCoroutine := ic, more := mo } L a cd cl) (.ExceptHandler (some (.Name (Str.ofString "IndexError") np)) none (b₀ :: suite) pos :: rest)) Q E s₃) E s₂) E s' := by
  generalize hen : envX name { kind := .function, names := nm, isGenerator := ig, isCoroutine := ic, more := mo } L a cd cl = env at *
  have hfr : env.frame = some L := by rw [← hen]
  obtain ⟨G, w0, hG, hold, hfly⟩ := R
  have hnoL : G.get? L = none := by
    obtain ⟨_, ⟨L', _, hf, hn, _⟩, _⟩ := hfly.2.2.1
    rw [hfr] at hf
    cases hf
    exact hn
  have lift : ∀ {g : Heap}, Heap.FlyingW G (env :: outer) e (.type "IndexError") w0 g → h₀.StaysIn g := fun q => (flyingW_base hG q).1
  refine wpAny_looks_onW (Around.frames_deeper B.stack) hfr hfly fun g1 q1 u1 => wpAny_landsW q1 fun g2 q2 u2 => ?_
  obtain ⟨ob, hob, hcls⟩ := q2.there
  have F2 := F.of_stays (lift q2) ((hsm.trans u1).trans u2)
  refine wpAny_handleBy_builtin (X := "IndexError") (T := "IndexError") (b := true) PySem.F.isExc_IndexError PySem.F.notTuple_IndexError (by rw [isSubtype_type]; kernel_rfl) ?_
  subst hen
  refine nameX_B F2 X T hns PyProof.Rows.Boot.«IndexError» (by decide +kernel) ⟨rfl, ⟨ob, hob, hcls⟩, ?_⟩ rfl hx
  refine lands_againW q2 fun g3 q3 u3 => ?_
  have F3 := F.of_stays (lift q3) (((hsm.trans u1).trans u2).trans u3)
  refine wpAny_passesOwnAt hE (k g3 F3 fun q hq => ⟨q3.1 _ _ (hold q hq).1, fun z => ?_, (hold q hq).2⟩)
  have := (hold q hq).1
  rw [z, hnoL] at this
  cases this
end

section
open PySem.W
def digs : Nat → Int → List Int
  | 0, _ => []
  | g + 1, W => W.fmod 4096 :: digs g (W.fdiv 4096)
theorem digs_snoc : ∀ (g : Nat) (W : Int), ∃ V : Int, digs (g + 1) W = digs g W ++ [V.fmod 4096] ∧ (∀ k, digs (g + k) W = digs g W ++ digs k V) ∧ V = Nat.rec W (fun _ x => x.fdiv 4096) g
  | 0, W => ⟨W, rfl, fun k => by simp [digs], rfl⟩
  | g + 1, W => by
    obtain ⟨V, h1, h2, h3⟩ := digs_snoc g (W.fdiv 4096)
    refine ⟨V, ?_, fun k => ?_, ?_⟩
    · show W.fmod 4096 :: digs (g + 1) (W.fdiv 4096) = _
      rw [h1]; rfl
    · have e : g + 1 + k = (g + k) + 1 := by omega
      rw [e]
      show W.fmod 4096 :: digs (g + k) (W.fdiv 4096) = _
      rw [h2]; rfl
    · rw [h3]
      clear h1 h2 h3
      induction g with
      | zero => rfl
      | succ g ih => exact congrArg (fun x : Int => x.fdiv 4096) ih
def shift (W : Int) (g : Nat) : Int := Nat.rec W (fun _ x => x.fdiv 4096) g
theorem shift_succ (W : Int) (g : Nat) : shift W (g + 1) = (shift W g).fdiv 4096 := rfl
theorem digs_succ (g : Nat) (W : Int) : digs (g + 1) W = digs g W ++ [(shift W g).fmod 4096] := by
  obtain ⟨V, h1, _, h3⟩ := digs_snoc g W
  rw [h1, h3]; rfl
theorem digs_add (g k : Nat) (W : Int) : ∃ V, digs (g + k) W = digs g W ++ digs k V := by
  obtain ⟨V, _, h2, _⟩ := digs_snoc g W
  exact ⟨V, h2 k⟩
def filt (W : Int) (g : Nat) : List Int := (digs g W).filter fun d => decide (d < 3329)
theorem filt_succ (W : Int) (g : Nat) : filt W (g + 1) = filt W g ++ (if (shift W g).fmod 4096 < 3329 then [(shift W g).fmod 4096] else []) := by
  unfold filt
  rw [digs_succ, List.filter_append]
  congr 1
  simp only [List.filter_cons, List.filter_nil, decide_eq_true_eq]
theorem filt_add (W : Int) (g k : Nat) : ∃ r, filt W (g + k) = filt W g ++ r := by
  obtain ⟨V, h⟩ := digs_add g k W
  unfold filt
  rw [h, List.filter_append]
  exact ⟨_, rfl⟩
/-- the law's second loop, told -/
def Told2 (W : Int) (n : Nat) (g : Nat) (st : List Int × Int × Int) : Prop :=
  st.1 = (filt W g).take n ∧ (st.1.length < n → st.2.2 = shift W g) ∧
  (st.1.length = 0 → st.2.1 = 0) ∧
  (0 < st.1.length → ∃ g' : Nat, g' < g ∧ st.2.1 = 3 * (((g' / 2 : Nat) : Int) + 1) ∧ (filt W g').length + 1 = st.1.length ∧ (filt W (g' + 1)).length = st.1.length)
theorem told2_step {W n : Int} {g : Nat} {st : List Int × Int × Int} (hn : 0 ≤ n) (h : Told2 W n.toNat g st) : Told2 W n.toNat (g + 1) (stepF n st (g : Int)) := by
  obtain ⟨kept, used, whole⟩ := st
  obtain ⟨h1, h2, h3, h4⟩ := h
  dsimp only at h1 h2 h3 h4
  unfold stepF
  dsimp only
  by_cases hk : (kept.length : Int) < n
  · rw [if_pos hk]
    have hk' : kept.length < n.toNat := by omega
    have hw := h2 hk'
    have hlt : (filt W g).length < n.toNat := by
      rw [h1, List.length_take] at hk'; omega
    have hkf : kept = filt W g := by rw [h1]; exact List.take_of_length_le (Nat.le_of_lt hlt)
    by_cases hd : whole.fmod 4096 < 3329
    · rw [if_pos hd]
      rw [hw] at hd ⊢
      have e : filt W (g + 1) = filt W g ++ [(shift W g).fmod 4096] := by rw [filt_succ, if_pos hd]
      refine ⟨?_, fun _ => rfl, fun hz => ?_, fun _ => ⟨g, by omega, ?_, ?_, ?_⟩⟩
      · show kept ++ _ = _
        rw [e, hkf]
        exact (List.take_of_length_le (by rw [List.length_append]; simp only [List.length_cons, List.length_nil]; omega)).symm
      · rw [List.length_append] at hz; simp at hz
      · show 3 * ((g : Int).fdiv 2 + 1) = _
        rw [Int.fdiv_eq_ediv_of_nonneg _ (by omega)]
        omega
      · show _ = (kept ++ _).length
        rw [hkf, List.length_append]; rfl
      · show _ = (kept ++ _).length
        rw [hkf, e]
    · rw [if_neg hd]
      rw [hw] at hd ⊢
      have e : filt W (g + 1) = filt W g := by rw [filt_succ, if_neg hd, List.append_nil]
      refine ⟨by show kept = _; rw [e]; exact h1, fun _ => rfl, h3, fun hp => ?_⟩
      obtain ⟨g', a, b, c, d⟩ := h4 hp
      exact ⟨g', by omega, b, c, d⟩
  · rw [if_neg hk]
    have hk' : ¬ kept.length < n.toNat := by omega
    refine ⟨?_, fun q => absurd q hk', h3, fun hp => ?_⟩
    · show kept = _
      have hl : n.toNat ≤ (filt W g).length := by
        rw [h1, List.length_take] at hk'; omega
      obtain ⟨r, hr⟩ := filt_add W g 1
      rw [hr, List.take_append_of_le_length hl]
      exact h1
    · obtain ⟨g', a, b, c, d⟩ := h4 hp
      exact ⟨g', by omega, b, c, d⟩
theorem rangeKs_succ (g : Nat) : rangeKs 0 (g + 1) = rangeKs 0 g ++ [(g : Int)] := by
  unfold rangeKs
  rw [List.range_succ, List.map_append]
  simp
theorem told2_all {W n : Int} (hn : 0 ≤ n) : ∀ g : Nat, Told2 W n.toNat g ((rangeKs 0 g).foldl (stepF n) ([], 0, W))
  | 0 => ⟨by simp [filt, digs, rangeKs], fun _ => rfl, fun _ => rfl, fun h => by simp [rangeKs] at h⟩
  | g + 1 => by
    rw [rangeKs_succ, List.foldl_append]
    exact told2_step hn (told2_all hn g)
/-- the octets' numbers are the whole number's digits -/
theorem digs_cands : ∀ (o : List Int), (∀ k ∈ o, 0 ≤ k ∧ k < 256) → digs (2 * (o.length / 3)) (valL o) = cands o
  | [], _ => by simp [digs, cands]
  | [_], _ => by simp [digs, cands]
  | [_, _], _ => by simp [digs, cands]
  | a :: b :: c :: r, h => by
    have ih := digs_cands r fun k hk => h k (.tail _ (.tail _ (.tail _ hk)))
    have ha := h a (.head _)
    have hb := h b (.tail _ (.head _))
    have hc := h c (.tail _ (.tail _ (.head _)))
    have e : 2 * ((a :: b :: c :: r).length / 3) = 2 * (r.length / 3) + 1 + 1 := by
      simp only [List.length_cons]; omega
    rw [e]
    simp only [digs, cands, valL]
    generalize hv : valL r = v at ih ⊢
    have f1 : (a + 256 * (b + 256 * (c + 256 * v))).fmod 4096 = a + 256 * b.fmod 16 := by
      rw [Int.fmod_eq_emod_of_nonneg _ (by omega), Int.fmod_eq_emod_of_nonneg _ (by omega)]; omega
    have f2 : (a + 256 * (b + 256 * (c + 256 * v))).fdiv 4096 = b.fdiv 16 + 16 * c + 4096 * v := by
      rw [Int.fdiv_eq_ediv_of_nonneg _ (by omega), Int.fdiv_eq_ediv_of_nonneg _ (by omega)]; omega
    have f3 : (b.fdiv 16 + 16 * c + 4096 * v).fmod 4096 = b.fdiv 16 + 16 * c := by
      rw [Int.fmod_eq_emod_of_nonneg _ (by omega), Int.fdiv_eq_ediv_of_nonneg _ (by omega)]; omega
    have f4 : (b.fdiv 16 + 16 * c + 4096 * v).fdiv 4096 = v := by
      rw [Int.fdiv_eq_ediv_of_nonneg _ (by omega), Int.fdiv_eq_ediv_of_nonneg b (by omega)]; omega
    rw [f1, f2, f3, f4, ih]
theorem cands_len : ∀ o : List Int, (cands o).length = 2 * (o.length / 3)
  | [] => by simp [cands]
  | [_] => by simp [cands]
  | [_, _] => by simp [cands]
  | _ :: _ :: _ :: r => by
    simp only [cands, List.length_cons, cands_len r]; omega
theorem filt_keeps (o : List Int) (h : ∀ k ∈ o, 0 ≤ k ∧ k < 256) : filt (valL o) (2 * (o.length / 3)) = keeps o := by
  unfold filt keeps
  rw [digs_cands o h]
/-- the first k triples alone -/
theorem filt_take (o : List Int) (h : ∀ k ∈ o, 0 ≤ k ∧ k < 256) (k : Nat) (hk : 3 * k ≤ o.length) : filt (valL o) (2 * k) = keeps (o.take (3 * k)) := by
  have e : digs (2 * (o.length / 3)) (valL o) = cands o := digs_cands o h
  obtain ⟨V, hV⟩ := digs_add (2 * k) (2 * (o.length / 3) - 2 * k) (valL o)
  have e2 : 2 * k + (2 * (o.length / 3) - 2 * k) = 2 * (o.length / 3) := by omega
  rw [e2, e] at hV
  have hc : cands o = cands (o.take (3 * k)) ++ cands (o.drop (3 * k)) := by
    rw [← cands_append _ _ (by rw [List.length_take]; omega), List.take_append_drop]
  rw [hc] at hV
  have dl : ∀ (g : Nat) (W : Int), (digs g W).length = g := by
    intro g
    induction g with
    | zero => intro W; rfl
    | succ g ih => intro W; simp only [digs, List.length_cons, ih]
  have hl : (cands (o.take (3 * k))).length = (digs (2 * k) (valL o)).length := by
    rw [cands_len, dl, List.length_take]; omega
  have := (List.append_inj hV hl).1
  unfold filt keeps
  rw [this]
theorem keeps_partial (o : List Int) (k : Nat) (m : Nat) (hm : m < 3) (hk : 3 * k + m ≤ o.length) : keeps (o.take (3 * k + m)) = keeps (o.take (3 * k)) := by
  have e : o.take (3 * k + m) = o.take (3 * k) ++ (o.drop (3 * k)).take m := by rw [List.take_add]
  rw [e, keeps_append _ _ (by rw [List.length_take]; omega)]
  have hz : keeps ((o.drop (3 * k)).take m) = [] := by
    have hl : ((o.drop (3 * k)).take m).length ≤ 2 := by rw [List.length_take]; omega
    generalize (o.drop (3 * k)).take m = l at hl
    match l, hl with
    | [], _ => unfold keeps; rfl
    | [_], _ => unfold keeps; rfl
    | [_, _], _ => unfold keeps; rfl
    | _ :: _ :: _ :: _, h => simp at h
  rw [hz, List.append_nil]
/-- what the law needs -/
theorem law_core {o : List Int} {n : Int} {kept : List Int} {used whole : Int} (h : ∀ k ∈ o, 0 ≤ k ∧ k < 256) (hn : 0 ≤ n)
    (hc : (kept, used, whole) = (rangeKs 0 (2 * (o.length / 3))).foldl (stepF n) ([], 0, valL o)) :
    kept = (keeps o).take n.toNat ∧ (n = 0 → used = 0) ∧ (0 < n → n.toNat ≤ (keeps o).length → 0 < used ∧ used ≤ (o.length : Int) ∧
      n.toNat ≤ (keeps (o.take used.toNat)).length ∧ (keeps (o.take used.toNat)).take n.toNat = kept ∧ (keeps (o.take (used - 1).toNat)).length < n.toNat) := by
  have ht := told2_all (W := valL o) hn (2 * (o.length / 3))
  rw [← hc] at ht
  obtain ⟨h1, h2, h3, h4⟩ := ht
  dsimp only at h1 h2 h3 h4
  rw [filt_keeps o h] at h1
  refine ⟨h1, fun h0 => h3 (by rw [h1, h0]; simp), fun hp hl => ?_⟩
  have hkl : kept.length = n.toNat := by rw [h1, List.length_take]; omega
  obtain ⟨g', a, b, c, d⟩ := h4 (by omega)
  have hk3 : 3 * (g' / 2 + 1) ≤ o.length := by omega
  have hu : used.toNat = 3 * (g' / 2 + 1) := by omega
  have hu1 : (used - 1).toNat = 3 * (g' / 2) + 2 := by omega
  refine ⟨by omega, by omega, ?_, ?_, ?_⟩
  · rw [hu, ← filt_take o h _ hk3]
    obtain ⟨r, hr⟩ := filt_add (valL o) (g' + 1) (2 * (g' / 2 + 1) - (g' + 1))
    have e : g' + 1 + (2 * (g' / 2 + 1) - (g' + 1)) = 2 * (g' / 2 + 1) := by omega
    rw [e] at hr
    rw [hr, List.length_append]; omega
  · rw [hu]
    obtain ⟨r, hr⟩ := keeps_mono o (g' / 2 + 1)
    have hle : n.toNat ≤ (keeps (o.take (3 * (g' / 2 + 1)))).length := by
      rw [← filt_take o h _ hk3]
      obtain ⟨r, hr⟩ := filt_add (valL o) (g' + 1) (2 * (g' / 2 + 1) - (g' + 1))
      have e : g' + 1 + (2 * (g' / 2 + 1) - (g' + 1)) = 2 * (g' / 2 + 1) := by omega
      rw [e] at hr
      rw [hr, List.length_append]; omega
    rw [h1, hr, List.take_append_of_le_length hle]
  · rw [hu1, keeps_partial o (g' / 2) 2 (by omega) (by omega), ← filt_take o h _ (by omega)]
    obtain ⟨r, hr⟩ := filt_add (valL o) (2 * (g' / 2)) (g' - 2 * (g' / 2))
    have e : 2 * (g' / 2) + (g' - 2 * (g' / 2)) = g' := by omega
    rw [e] at hr
    have : (filt (valL o) (2 * (g' / 2))).length ≤ (filt (valL o) g').length := by rw [hr, List.length_append]; omega
    omega
end

section
open PySem.W
theorem digs8 (W : Int) : digs 8 W = [W.fmod 4096, (W.fdiv 4096).fmod 4096, ((W.fdiv 4096).fdiv 4096).fmod 4096, (((W.fdiv 4096).fdiv 4096).fdiv 4096).fmod 4096, ((((W.fdiv 4096).fdiv 4096).fdiv 4096).fdiv 4096).fmod 4096,
  (((((W.fdiv 4096).fdiv 4096).fdiv 4096).fdiv 4096).fdiv 4096).fmod 4096, ((((((W.fdiv 4096).fdiv 4096).fdiv 4096).fdiv 4096).fdiv 4096).fdiv 4096).fmod 4096, (((((((W.fdiv 4096).fdiv 4096).fdiv 4096).fdiv 4096).fdiv 4096).fdiv 4096).fdiv 4096).fmod 4096] := rfl
/-- the law's loop of 04 -/
@[irreducible] def stepG (nums : List Int) (st : List Int × Int) (g : Int) : List Int × Int :=
  if nums.getD g.toNat 0 < 3329 ∧ (st.1.length : Int) < 256 then (st.1 ++ [nums.getD g.toNat 0], 3 * (g.fdiv 2 + 1)) else st
def GInv (nums pre kept : List Int) (used : Int) : Prop := (kept, used) = pre.foldl (stepG nums) ([], 0)
theorem GInv_start (nums : List Int) : GInv nums [] [] 0 := rfl
section
variable {nums pre kept : List Int} {used g : Int}
theorem GInv_A (h : GInv nums pre kept used) (h1 : nums.getD g.toNat 0 < 3329) (h2 : (kept.length : Int) < 256) : GInv nums (pre ++ [g]) (kept ++ [nums.getD g.toNat 0]) (3 * (g.fdiv 2 + 1)) := by
  unfold GInv at h ⊢
  rw [List.foldl_append, ← h]; simp only [List.foldl_cons, List.foldl_nil]; unfold stepG; rw [if_pos ⟨h1, h2⟩]
theorem GInv_B (h : GInv nums pre kept used) (h1 : ¬ nums.getD g.toNat 0 < 3329) : GInv nums (pre ++ [g]) kept used := by
  unfold GInv at h ⊢
  rw [List.foldl_append, ← h]; simp only [List.foldl_cons, List.foldl_nil]; unfold stepG; rw [if_neg (fun q => h1 q.1)]
theorem GInv_C (h : GInv nums pre kept used) (h2 : ¬ (kept.length : Int) < 256) : GInv nums (pre ++ [g]) kept used := by
  unfold GInv at h ⊢
  rw [List.foldl_append, ← h]; simp only [List.foldl_cons, List.foldl_nil]; unfold stepG; rw [if_neg (fun q => h2 q.2)]
end
/-! the loop, told -/
def filtN (nums : List Int) (g : Nat) : List Int := (nums.take g).filter fun d => decide (d < 3329)
theorem filtN_succ (nums : List Int) (g : Nat) (h : g < nums.length) : filtN nums (g + 1) = filtN nums g ++ (if nums.getD g 0 < 3329 then [nums.getD g 0] else []) := by
  unfold filtN
  rw [List.take_add_one, List.filter_append, List.getElem?_eq_getElem h]
  congr 1
  have e : nums.getD g 0 = nums[g] := by rw [List.getD_eq_getElem?_getD, List.getElem?_eq_getElem h]; rfl
  rw [e]
  simp only [Option.toList_some, List.filter_cons, List.filter_nil, decide_eq_true_eq]
theorem filtN_mono (nums : List Int) {g k : Nat} (h : g ≤ k) : ∃ r, filtN nums k = filtN nums g ++ r := by
  refine ⟨((nums.drop g).take (k - g)).filter fun d => decide (d < 3329), ?_⟩
  unfold filtN
  rw [← List.filter_append]
  congr 1
  have e : k = g + (k - g) := by omega
  rw [e, List.take_add]
  have e2 : g + (k - g) - g = k - g := by omega
  rw [e2]
def ToldG (nums : List Int) (g : Nat) (st : List Int × Int) : Prop :=
  st.1 = (filtN nums g).take 256 ∧
  (0 < st.1.length → ∃ g' : Nat, g' < g ∧ st.2 = 3 * (((g' / 2 : Nat) : Int) + 1) ∧ (filtN nums g').length + 1 = st.1.length ∧ (filtN nums (g' + 1)).length = st.1.length)
theorem toldG_step {nums : List Int} {g : Nat} {st : List Int × Int} (hg : g < nums.length) (h : ToldG nums g st) : ToldG nums (g + 1) (stepG nums st (g : Int)) := by
  obtain ⟨kept, used⟩ := st
  obtain ⟨h1, h4⟩ := h
  dsimp only at h1 h4
  unfold stepG
  dsimp only
  have eg : (g : Int).toNat = g := by omega
  rw [eg]
  by_cases hc : nums.getD g 0 < 3329 ∧ (kept.length : Int) < 256
  · rw [if_pos hc]
    obtain ⟨hd, hk⟩ := hc
    have hlt : (filtN nums g).length < 256 := by
      rw [h1, List.length_take] at hk; omega
    have hkf : kept = filtN nums g := by rw [h1]; exact List.take_of_length_le (Nat.le_of_lt hlt)
    have e : filtN nums (g + 1) = filtN nums g ++ [nums.getD g 0] := by rw [filtN_succ _ _ hg, if_pos hd]
    refine ⟨?_, fun _ => ⟨g, by omega, ?_, ?_, ?_⟩⟩
    · show kept ++ _ = _
      rw [e, hkf]
      exact (List.take_of_length_le (by rw [List.length_append]; simp only [List.length_cons, List.length_nil]; omega)).symm
    · show 3 * ((g : Int).fdiv 2 + 1) = _
      rw [Int.fdiv_eq_ediv_of_nonneg _ (by omega)]
      omega
    · show _ = (kept ++ _).length
      rw [hkf, List.length_append]; rfl
    · show _ = (kept ++ _).length
      rw [hkf, e]
  · rw [if_neg hc]
    refine ⟨?_, fun hp => ?_⟩
    · show kept = _
      by_cases hd : nums.getD g 0 < 3329
      · have hl : 256 ≤ (filtN nums g).length := by
          have : ¬ (kept.length : Int) < 256 := fun q => hc ⟨hd, q⟩
          rw [h1, List.length_take] at this; omega
        obtain ⟨r, hr⟩ := filtN_mono nums (Nat.le_succ g)
        rw [hr, List.take_append_of_le_length hl]
        exact h1
      · rw [filtN_succ _ _ hg, if_neg hd, List.append_nil]
        exact h1
    · obtain ⟨g', a, b, c, d⟩ := h4 hp
      exact ⟨g', by omega, b, c, d⟩
theorem toldG_all (nums : List Int) : ∀ g : Nat, g ≤ nums.length → ToldG nums g ((rangeKs 0 g).foldl (stepG nums) ([], 0))
  | 0, _ => ⟨by simp [filtN, rangeKs], fun h => by simp [rangeKs] at h⟩
  | g + 1, hg => by
    rw [rangeKs_succ, List.foldl_append]
    exact toldG_step (by omega) (toldG_all nums g (by omega))
/-- the first 2k numbers are those of the first k triples -/
theorem cands_take (o : List Int) (k : Nat) (hk : 3 * k ≤ o.length) : (cands o).take (2 * k) = cands (o.take (3 * k)) := by
  have hc : cands o = cands (o.take (3 * k)) ++ cands (o.drop (3 * k)) := by
    rw [← cands_append _ _ (by rw [List.length_take]; omega), List.take_append_drop]
  have hl : (cands (o.take (3 * k))).length = 2 * k := by rw [cands_len, List.length_take]; omega
  rw [hc, List.take_append_of_le_length (by omega), ← hl, List.take_length]
theorem law4_core {o kept : List Int} {used : Int} (h3 : o.length % 3 = 0) (hc : (kept, used) = (rangeKs 0 (cands o).length).foldl (stepG (cands o)) ([], 0)) :
    kept = (keeps o).take 256 ∧ (256 ≤ (keeps o).length → 0 < used ∧ used ≤ (o.length : Int) ∧
      256 ≤ (keeps (o.take used.toNat)).length ∧ (keeps (o.take used.toNat)).take 256 = kept ∧ (keeps (o.take (used - 1).toNat)).length < 256) := by
  have ht := toldG_all (cands o) (cands o).length (Nat.le_refl _)
  rw [← hc] at ht
  obtain ⟨h1, h4⟩ := ht
  dsimp only at h1 h4
  have hf : filtN (cands o) (cands o).length = keeps o := by
    unfold filtN keeps
    rw [List.take_length]
  have hfk : ∀ k, 3 * k ≤ o.length → filtN (cands o) (2 * k) = keeps (o.take (3 * k)) := by
    intro k hk
    unfold filtN keeps
    rw [cands_take o k hk]
  rw [hf] at h1
  refine ⟨h1, fun hl => ?_⟩
  have hkl : kept.length = 256 := by rw [h1, List.length_take]; omega
  obtain ⟨g', a, b, c, d⟩ := h4 (by omega)
  rw [cands_len] at a
  have hk3 : 3 * (g' / 2 + 1) ≤ o.length := by omega
  have hu : used.toNat = 3 * (g' / 2 + 1) := by omega
  have hu1 : (used - 1).toNat = 3 * (g' / 2) + 2 := by omega
  have hle : 256 ≤ (keeps (o.take (3 * (g' / 2 + 1)))).length := by
    rw [← hfk _ hk3]
    obtain ⟨r, hr⟩ := filtN_mono (cands o) (g := g' + 1) (k := 2 * (g' / 2 + 1)) (by omega)
    rw [hr, List.length_append]; omega
  refine ⟨by omega, by omega, ?_, ?_, ?_⟩
  · rw [hu]; exact hle
  · rw [hu]
    obtain ⟨r, hr⟩ := keeps_mono o (g' / 2 + 1)
    rw [h1, hr, List.take_append_of_le_length hle]
  · rw [hu1, keeps_partial o (g' / 2) 2 (by omega) (by omega), ← hfk _ (by omega)]
    obtain ⟨r, hr⟩ := filtN_mono (cands o) (g := 2 * (g' / 2)) (k := g') (by omega)
    have : (filtN (cands o) (2 * (g' / 2))).length ≤ (filtN (cands o) g').length := by rw [hr, List.length_append]; omega
    omega

def NInv (W : Int) (pre numbers : List Int) (whole : Int) : Prop := numbers = digs pre.length W ∧ whole = shift W pre.length
theorem NInv_start {o : List Int} {W wt : Int} (h : PInv o W wt) : NInv (valL o) [] [] W := ⟨rfl, h.1⟩
theorem NInv_step {W : Int} {pre numbers : List Int} {whole k : Int} (h : NInv W pre numbers whole) : NInv W (pre ++ [k]) (numbers ++ [whole.fmod 4096]) (whole.fdiv 4096) := by
  obtain ⟨h1, h2⟩ := h
  have e : (pre ++ [k]).length = pre.length + 1 := by simp
  refine ⟨?_, ?_⟩
  · rw [e, digs_succ, h1, h2]
  · rw [e, shift_succ, h2]
theorem NInv_len {W : Int} {pre numbers : List Int} {whole : Int} (h : NInv W pre numbers whole) : numbers.length = pre.length := by
  have dl : ∀ (g : Nat) (W : Int), (digs g W).length = g := by
    intro g
    induction g with
    | zero => intro W; rfl
    | succ g ih => intro W; simp only [digs, List.length_cons, ih]
  rw [h.1, dl]
end

section
/-- a list n times -/
@[irreducible] def rep (n : Int) (l : List Int) : List Int := (List.replicate n.toNat l).flatten
theorem rep_len (n : Int) (l : List Int) : (rep n l).length = n.toNat * l.length := by
  unfold rep
  rw [List.length_flatten, List.map_replicate, List.sum_replicate_nat]
theorem rep_in {n : Int} {l : List Int} (h : KBa.In l) : KBa.In (rep n l) := by
  unfold rep
  intro k hk
  obtain ⟨r, hr, hkr⟩ := List.mem_flatten.1 hk
  rw [(List.mem_replicate.1 hr).2] at hkr
  exact h k hkr
theorem in_app {l r : List Int} (h : KBa.In l) (h' : KBa.In r) : KBa.In (l ++ r) := fun k hk => by
  rcases List.mem_append.1 hk with q | q
  · exact h k q
  · exact h' k q
theorem in_take {l : List Int} {k : Nat} (h : KBa.In l) : KBa.In (l.take k) := fun q hq => h q (List.mem_of_mem_take hq)
@[irreducible] def oct12 (f : Int → Int) : List Int := List.map (fun k => (f k).fmod 256) (rangeKs 0 (12 - 0 : Int).toNat)
theorem oct12_len (f : Int → Int) : (oct12 f).length = 12 := by
  unfold oct12
  rw [List.length_map, rangeKs_length]; rfl
theorem oct12_in (f : Int → Int) : KBa.In (oct12 f) := by
  unfold oct12
  intro k hk
  obtain ⟨a, _, rfl⟩ := List.mem_map.mp hk
  exact ⟨fmod_lo _ (by decide), fmod_hi _ (by decide)⟩
@[irreducible] def cut8 (l : List Int) : List Int := digs 8 (valL l)
theorem digs_len : ∀ (g : Nat) (W : Int), (digs g W).length = g
  | 0, _ => rfl
  | g + 1, W => by simp only [digs, List.length_cons, digs_len g]
theorem cut8_len (l : List Int) : (cut8 l).length = 8 := by unfold cut8; exact digs_len _ _
theorem mod32 (x : Int) : 0 ≤ x.fmod 32 ∧ x.fmod 32 < 32 := ⟨fmod_lo x (by decide), fmod_hi x (by decide)⟩
@[irreducible] def repO (x : Int) (f : Int → Int) : List Int := rep (x.fmod 32) (oct12 f)
@[irreducible] def repN (x : Int) (f : Int → Int) : List Int := rep (x.fmod 32) (cut8 (oct12 f))
theorem repO_le (x : Int) (f : Int → Int) : (repO x f).length ≤ 372 := by
  have := mod32 x
  unfold repO
  rw [rep_len, oct12_len]; omega
theorem repN_le (x : Int) (f : Int → Int) : (repN x f).length ≤ 248 := by
  have := mod32 x
  unfold repN
  rw [rep_len, cut8_len]; omega
theorem repO_in (x : Int) (f : Int → Int) : KBa.In (repO x f) := by unfold repO; exact rep_in (oct12_in f)
@[irreducible] def bigO2 (x y : Int) (fa fb : Int → Int) : List Int := repO x fa ++ repO y fb
@[irreducible] def bigN2 (x y : Int) (fa fb : Int → Int) : List Int := repN x fa ++ repN y fb
@[irreducible] def bigO (x y z : Int) (fa fb fc : Int → Int) : List Int := bigO2 x y fa fb ++ repO z fc
@[irreducible] def bigN (x y z : Int) (fa fb fc : Int → Int) : List Int := bigN2 x y fa fb ++ repN z fc
theorem bigO2_le (x y : Int) (fa fb : Int → Int) : (bigO2 x y fa fb).length ≤ 744 := by
  have := repO_le x fa
  have := repO_le y fb
  unfold bigO2
  rw [List.length_append]; omega
theorem bigN2_le (x y : Int) (fa fb : Int → Int) : (bigN2 x y fa fb).length ≤ 496 := by
  have := repN_le x fa
  have := repN_le y fb
  unfold bigN2
  rw [List.length_append]; omega
theorem bigO_le (x y z : Int) (fa fb fc : Int → Int) : (bigO x y z fa fb fc).length ≤ 1116 := by
  have := bigO2_le x y fa fb
  have := repO_le z fc
  unfold bigO
  rw [List.length_append]; omega
theorem bigN_le (x y z : Int) (fa fb fc : Int → Int) : (bigN x y z fa fb fc).length ≤ 744 := by
  have := bigN2_le x y fa fb
  have := repN_le z fc
  unfold bigN
  rw [List.length_append]; omega
section
variable {prog : Program} {w : World} {A : Around} {E : Value → Shared → Prop} {s : Shared} {Q : Value → Shared → Prop} {x y z : Int} {fa fb fc f : Int → Int} {bs cs : Array UInt8} {t u : Tok}
theorem make12 {h₀ : Heap} {L D : Addr} {m : Str → Option Value} {news : List (Addr × Obj)} {vs : List Value} (F : Fr h₀ L s.heap m) (N : News h₀ L s.heap news) (hh : A.handled = none) (hl : s.heap.IsList D vs.toArray)
    (hi : IntsAre vs (List.map (fun k => (f k).fmod 256) (rangeKs 0 (12 - 0 : Int).toNat)))
    (h : ∀ bs h' t' k, KBw.bInts bs = oct12 f → Fr h₀ L h' m → News h₀ L h' news → Q (.bytes bs t') { s with heap := h', toks := k }) : wpAny (model prog w) A (call (.type "bytes") [.ref D]) Q E s := by
  have e : List.map (fun k => (f k).fmod 256) (rangeKs 0 (12 - 0 : Int).toNat) = oct12 f := by unfold oct12; rfl
  rw [e] at hi
  exact KBa.make_K F N hh hl hi (oct12_in f) (by rw [oct12_len]; decide) fun h' t' k F' N' hI => h _ h' t' k (KBa.ints_make hI) F' N'
theorem bmulI (hb : KBw.bInts bs = oct12 f) (h : ∀ bs' t' k, KBw.bInts bs' = repO x f → Q (.bytes bs' t') { s with toks := k }) : wpAny (model prog w) A (binaryOp .Mult (.bytes bs t) (.int (x.fmod 32) u)) Q E s := by
  have hl : bs.toList.length = 12 := by
    have := KBw.ints_length bs
    rw [hb, oct12_len] at this
    simpa using this.symm
  have hx := mod32 x
  have e : KBw.bInts ((List.replicate (x.fmod 32).toNat bs.toList).flatten).toArray = repO x f := by
    unfold repO rep
    rw [← hb]
    unfold KBw.bInts
    simp only [List.map_flatten, List.map_replicate]
  have hb' : bs.toList ≠ [] := by intro q; rw [q] at hl; simp at hl
  generalize hg : bs.toList = b at *
  have eb : bs = b.toArray := by rw [← hg]
  rw [eb]
  exact bytes_mul_any hb' (by omega) (by omega) (by omega) fun t' k => h _ t' k e
theorem badd2 (hb : KBw.bInts bs = repO x fa) (hc : KBw.bInts cs = repO y fb) (h : ∀ bs' t' k, KBw.bInts bs' = bigO2 x y fa fb → Q (.bytes bs' t') { s with toks := k }) : wpAny (model prog w) A (binaryOp .Add (.bytes bs t) (.bytes cs u)) Q E s := by
  have h1 := repO_le x fa
  have h2 := repO_le y fb
  refine KBa.add_K hb hc (by omega) fun t' k e => h _ t' k ?_
  rw [e]; unfold bigO2; rfl
theorem badd3 (hb : KBw.bInts bs = bigO2 x y fa fb) (hc : KBw.bInts cs = repO z fc) (h : ∀ bs' t' k, KBw.bInts bs' = bigO x y z fa fb fc → Q (.bytes bs' t') { s with toks := k }) : wpAny (model prog w) A (binaryOp .Add (.bytes bs t) (.bytes cs u)) Q E s := by
  have h1 := bigO2_le x y fa fb
  have h2 := repO_le z fc
  refine KBa.add_K hb hc (by omega) fun t' k e => h _ t' k ?_
  rw [e]; unfold bigO; rfl
theorem IntsAre_rep {vs : List Value} {ns : List Int} (h : IntsAre vs ns) (n : Int) : IntsAre ((List.replicate n.toNat vs).flatten) (rep n ns) := by
  unfold rep
  generalize n.toNat = k
  induction k with
  | zero => exact .nil
  | succ k ih =>
    simp only [List.replicate_succ, List.flatten_cons]
    exact IntsAre.append h ih
section
variable {h₀ : Heap} {L : Addr} {m : Str → Option Value} {news : List (Addr × Obj)} {l a b : Addr} {vs ws : List Value} (Fm : Fr h₀ L s.heap m) (N : News h₀ L s.heap news)
include Fm N
theorem lmulI (hl : s.heap.IsList l vs.toArray) (hi : IntsAre vs (cut8 (oct12 f)))
    (h : ∀ D ws h', IntsAre ws (repN x f) → Fr h₀ L h' m → News h₀ L h' ((D, listOf (List.toArray ws) 0) :: news) → (∀ p ∈ news, p.1 < D) → Q (.ref D) { s with heap := h' }) : wpAny (model prog w) A (binaryOp .Mult (.ref l) (.int (x.fmod 32) u)) Q E s := by
  have hx := mod32 x
  refine KMa.mul Fm N hl (by omega) (by omega) ?_ rfl fun D h' F' N' hlt => h D _ h' ?_ F' N' hlt
  · rw [hi.length, cut8_len]; omega
  · unfold repN; exact IntsAre_rep hi _
theorem ladd2 (ha : s.heap.IsList a vs.toArray) (hb : s.heap.IsList b ws.toArray) (hi : IntsAre vs (repN x fa)) (hj : IntsAre ws (repN y fb))
    (h : ∀ D us h', IntsAre us (bigN2 x y fa fb) → Fr h₀ L h' m → News h₀ L h' ((D, listOf (List.toArray us) 0) :: news) → (∀ p ∈ news, p.1 < D) → Q (.ref D) { s with heap := h' }) : wpAny (model prog w) A (binaryOp .Add (.ref a) (.ref b)) Q E s := by
  have h1 := repN_le x fa
  have h2 := repN_le y fb
  refine kmk_add_ints Fm N ha hb hi hj (fun D us h' F' N' hlt hk => h D us h' ?_ F' N' hlt) (by rw [sizeLine_eq]; omega)
  unfold bigN2; exact hk
theorem ladd3 (ha : s.heap.IsList a vs.toArray) (hb : s.heap.IsList b ws.toArray) (hi : IntsAre vs (bigN2 x y fa fb)) (hj : IntsAre ws (repN z fc))
    (h : ∀ D us h', IntsAre us (bigN x y z fa fb fc) → Fr h₀ L h' m → News h₀ L h' ((D, listOf (List.toArray us) 0) :: news) → (∀ p ∈ news, p.1 < D) → Q (.ref D) { s with heap := h' }) : wpAny (model prog w) A (binaryOp .Add (.ref a) (.ref b)) Q E s := by
  have h1 := bigN2_le x y fa fb
  have h2 := repN_le z fc
  refine kmk_add_ints Fm N ha hb hi hj (fun D us h' F' N' hlt hk => h D us h' ?_ F' N' hlt) (by rw [sizeLine_eq]; omega)
  unfold bigN; exact hk
theorem sliceI {value slice : PySem.Expr} {j : Int} {tj : Tok} (hk : KBw.bInts bs = bigO x y z fa fb fc)
    (h : ∀ bs' h' t' k, KBw.bInts bs' = (bigO x y z fa fb fc).take (clipAt (bigO x y z fa fb fc).length j) → Fr h₀ L h' m → News h₀ L h' news → Q (.bytes bs' t') { s with heap := h', toks := k })
    (hs : subscripted slice false (.bytes bs t) (.ref s.heap.objs.size) = operate [.ref s.heap.objs.size, .bytes bs t] (getItem (.bytes bs t) (.ref s.heap.objs.size)) := by with_unfolding_all rfl)
    (ht : ∀ r, letTemporaryGo value (.bytes bs t) r = pure () := by intro _; with_unfolding_all rfl) :
    wpAny (model prog w) A (subscriptTail value slice (.bytes bs t) (.ref s.heap.objs.size)) Q E { s with heap := s.heap.push { cls := .type "slice", data := .fields #[.none, .int j tj, .none] } } := by
  have h1 := bigO_le x y z fa fb fc
  refine KBc.slice_K Fm N hk (lo := none) (hi := some j) (by constructor) (by constructor) (by omega) (fun h' t' k F' N' e => h _ h' t' k ?_ F' N') hs ht
  rw [e]
  simp only [Option.elim, List.drop_zero, Nat.sub_zero]
end
end
theorem rep_mod3 (n : Int) {l : List Int} (h : l.length % 3 = 0) : (rep n l).length % 3 = 0 := by
  rw [rep_len, Nat.mul_mod, h, Nat.mul_zero, Nat.zero_mod]
theorem cands_rep {l : List Int} (n : Int) (hl : l.length = 12) (h : KBa.In l) : cands (rep n l) = rep n (cut8 l) := by
  have e : cut8 l = cands l := by
    have := digs_cands l h
    rw [hl] at this
    unfold cut8
    exact this
  rw [e]
  unfold rep
  generalize n.toNat = k
  induction k with
  | zero => rfl
  | succ k ih =>
    simp only [List.replicate_succ, List.flatten_cons]
    rw [cands_append _ _ (by rw [hl]), ih]
theorem cands_repO (x : Int) (f : Int → Int) : cands (repO x f) = repN x f := by
  unfold repO repN
  exact cands_rep _ (oct12_len f) (oct12_in f)
theorem repO_mod3 (x : Int) (f : Int → Int) : (repO x f).length % 3 = 0 := by
  unfold repO
  exact rep_mod3 _ (by rw [oct12_len])
theorem bigO2_mod3 (x y : Int) (fa fb : Int → Int) : (bigO2 x y fa fb).length % 3 = 0 := by
  have h1 := repO_mod3 x fa
  have h2 := repO_mod3 y fb
  unfold bigO2
  rw [List.length_append]; omega
theorem bigO_mod3 (x y z : Int) (fa fb fc : Int → Int) : (bigO x y z fa fb fc).length % 3 = 0 := by
  have h1 := bigO2_mod3 x y fa fb
  have h2 := repO_mod3 z fc
  unfold bigO
  rw [List.length_append]; omega
theorem cands_big (x y z : Int) (fa fb fc : Int → Int) : cands (bigO x y z fa fb fc) = bigN x y z fa fb fc := by
  have h2 : cands (bigO2 x y fa fb) = bigN2 x y fa fb := by
    unfold bigO2 bigN2
    rw [cands_append _ _ (repO_mod3 x fa), cands_repO, cands_repO]
  have h3 := bigO2_mod3 x y fa fb
  unfold bigO bigN
  rw [cands_append _ _ h3, h2, cands_repO]
end

section
@[irreducible] def lawAt (ns : List Int) (i : Int) : Int := if i < ns.length then ns.getD i.toNat 0 else Int.fdiv (53*i*i + 29*i) 7

def ConLawAt (V : Program) (w : World) (mean : ExcName → Option Value) (mg mb : Str → Option Value) : Prop :=
  ∀ (dp un : Nat) (gd : Option (List Code)) (cn : Str) (cs : Scope) (a : Addr) (ccd : Value) (cl : List (Str × Addr)) (outer : List Env) (A₀ : Around) (base h₀ : Heap) (L : Addr) (m : Str → Option Value) (news : List (Addr × Obj)) (s : Shared) (l : Addr) (vs : List Value) (ns : List Int) (i : Int) (tk : Tok)
    (Q E : Value → Shared → Prop),
    Below A₀ base outer h₀ → Fr h₀ L s.heap m → (hb04.heap_1 w.params).In h₀ → News h₀ L s.heap news → Top V (looseW V [Str.ofString "PolynomialRing", Str.ofString "PolynomialNTT"]) mean mg mb h₀ → cs.kind = .function → base.IsList l vs.toArray → IntsAre vs ns → ns.length < 2 ^ 62 → 0 ≤ i → i < 1000 → dp + 1 < recursionLimit → un + 8 < cLine →
    (∀ t h' tk', Fr h₀ L h' m → News h₀ L h' news → Q (.int (lawAt ns i) t) { s with heap := h', toks := tk' }) →
    wpAny (model Challenge.rw_yd0004_04.row.prog w) (ktrTop dp un gd cn cs L a ccd cl outer) (call (.ref 433) [.ref l, .int i tk]) Q E s

theorem conLawAt (V : Program) (w : World) (mean : ExcName → Option Value) (mg mb : Str → Option Value) : ConLawAt V w mean mg mb := by
  have hkf : Challenge.rw_yd0004_04 = Challenge.rw_yd0004_04 ∧ hb04.heap_1 = hb04.heap_1 := ⟨rfl, rfl⟩
  suffices h : (Challenge.rw_yd0004_04 = Challenge.rw_yd0004_04 ∧ hb04.heap_1 = hb04.heap_1) → ConLawAt V w mean mg mb from h ⟨rfl, rfl⟩
  k_fill
  intro _
  unfold ConLawAt
  intro dp un gd cn cs a ccd cl outer A₀ base h₀ L m news s l vs ns i tk Q E B F X N T hk hl hi hfit h0 h1 hd hu hret
  refine wpAny_call ?_
  k_dflt cell_enter
  k_steps
  · refine cell_ret hret (by simp only [decide_eq_true_eq, decide_eq_false_iff_not] at *; unfold lawAt; rw [if_pos (by omega)]) (by k_asm) (by k_asm)
  · refine cell_ret hret (by simp only [decide_eq_true_eq, decide_eq_false_iff_not] at *; unfold lawAt; rw [if_neg (by omega)]) (by k_asm) (by k_asm)
end

section
local macro_rules | `(tactic| walk_at "call builtin:bin") => `(tactic| (k_here; refine P.bin_of_int ?_ (brA_size (by assumption) (by assumption))))
local macro_rules | `(tactic| walk_at "call type:int") => `(tactic| (k_here; (with_reducible show wpAny _ _ (call (Value.type "int") [Value.str _ _, Value.int _ _]) _ _ _); refine call_br_int (by assumption) (by assumption) ?_))
local macro_rules | `(tactic| size_fits) => `(tactic| first | exact brA_size (by assumption) (by assumption) | exact brB_size (by assumption) (by assumption))

def ConBr (V : Program) (w : World) (mean : ExcName → Option Value) (mg mb : Str → Option Value) : Prop :=
  ∀ (dp un : Nat) (gd : Option (List Code)) (cn : Str) (cs : Scope) (a : Addr) (ccd : Value) (cl : List (Str × Addr)) (outer : List Env) (A₀ : Around) (base h₀ : Heap) (L : Addr) (m : Str → Option Value) (news : List (Addr × Obj)) (s : Shared) (i : Int) (tk tk2 : Tok)
    (Q E : Value → Shared → Prop),
    Below A₀ base outer h₀ → Fr h₀ L s.heap m → (hb04.heap_1 w.params).In h₀ → News h₀ L s.heap news → Top V (looseW V [Str.ofString "PolynomialRing", Str.ofString "PolynomialNTT"]) mean mg mb h₀ → cs.kind = .function → 0 ≤ i → i < 128 → dp + 1 < recursionLimit → un + 8 < cLine →
    (∀ t h' tk', Fr h₀ L h' m → News h₀ L h' news → Q (.int (brV i) t) { s with heap := h', toks := tk' }) →
    wpAny (model Challenge.rw_yd0004_04.row.prog w) (ktrTop dp un gd cn cs L a ccd cl outer) (call (.ref 245) [.int i tk, .int 7 tk2]) Q E s

theorem conBr (V : Program) (w : World) (mean : ExcName → Option Value) (mg mb : Str → Option Value) : ConBr V w mean mg mb := by
  suffices h : (Challenge.rw_yd0004_04 = Challenge.rw_yd0004_04 ∧ hb04.heap_1 = hb04.heap_1) → ConBr V w mean mg mb from h ⟨rfl, rfl⟩
  k_fill
  intro _
  unfold ConBr
  intro dp un gd cn cs a ccd cl outer A₀ base h₀ L m news s i tk tk2 Q E B F X N T hk h0 h1 hd hu hret
  refine wpAny_call ?_
  k_dflt cell_enter
  k_steps
  exact hret _ _ _ (by k_asm) (by k_asm)
end

section
abbrev Sc (nm : List (Str × NameKind)) (ig ic : Bool) (mo : List (Str × Const)) : Scope := { kind := .function, names := nm, isGenerator := ig, isCoroutine := ic, more := mo }
local macro_rules | `(tactic| k_room) => `(tactic| ktr_room)
local macro_rules | `(tactic| k_units) => `(tactic| ktr_units)
theorem off1_of {D : Addr} : ∀ {l : List (Addr × Obj)}, LCg.Off1 D l → ∀ p ∈ l, p.1 ≠ D
  | [], _, _, h => nomatch h
  | q :: r, h, p, hp => by
    rcases List.mem_cons.mp hp with rfl | hp
    · exact h.1
    · exact off1_of h.2 p hp
theorem off1_3 {a b c : Prop} {D : Addr} {l : List (Addr × Obj)} (h : a ∧ b ∧ c ∧ LCg.Off1 D l) : ∀ p ∈ l, p.1 ≠ D := off1_of h.2.2.2
local macro_rules | `(tactic| k_all) => `(tactic| exact off1_3 (by assumption))
local macro_rules | `(tactic| walk_at "callWith ref") => `(tactic| (k_here; kco_any "__call__"; kco_here; k_dflt (refine' kco_callWith_KW ?k1 ?k2 ?k3 ?k4 ?k5 ?_; (case k1 => k_in); (case k2 => k_inst); (case k3 => rfl); (case k4 => k_is); (case k5 => exact rfl); k_whole)))
local macro_rules | `(tactic| walk_at "subscriptTail") => `(tactic| (k_here; (with_reducible show wpAny _ _ (subscriptTail _ _ (Value.bytes _ _) (Value.int _ _)) _ _ _); (refine' item_or ?kh ?k1 ?k2 ?k3 ?k4 (fun hIn hLo hHi t9 tk9 => ?_) (fun hOut h9 tk9 e9 x9 => ?_); (case kh => exact rfl); (case k1 => assumption); (case k2 => assumption); (case k3 => omega); (case k4 => omega); (all_goals (try dsimp only)))))
abbrev ringD (w : World) (n : Int) (t1 t2 t3 t4 t5 t6 : Tok) (zv fv : Value) : Obj :=
  dictOf [⟨PyData.keyHash w.params (Str.ofString "q"), .str (Str.ofString "q") t1, .int 3329 t2⟩, ⟨PyData.keyHash w.params (Str.ofString "n"), .str (Str.ofString "n") t3, .int n t4⟩,
    ⟨PyData.keyHash w.params (Str.ofString "ntt_zetas"), .str (Str.ofString "ntt_zetas") t5, zv⟩, ⟨PyData.keyHash w.params (Str.ofString "ntt_f"), .str (Str.ofString "ntt_f") t6, fv⟩] 4
abbrev polyD (w : World) (t7 t8 : Tok) (x D : Addr) : Obj :=
  dictOf [⟨PyData.keyHash w.params (Str.ofString "parent"), .str (Str.ofString "parent") t7, .ref x⟩, ⟨PyData.keyHash w.params (Str.ofString "coeffs"), .str (Str.ofString "coeffs") t8, .ref D⟩] 2
def ConNtt (V : Program) (w : World) (mean : ExcName → Option Value) (mg mb : Str → Option Value) : Prop :=
  ∀ (dp un : Nat) (gd : Option (List Code)) (cn : Str) (nm : List (Str × NameKind)) (ig ic : Bool) (mo : List (Str × Const)) (a : Addr) (ccd : Value) (cl : List (Str × Addr)) (outer : List Env) (A₀ : Around) (base h₀ : Heap) (L : Addr) (m : Str → Option Value) (news : List (Addr × Obj)) (s : Shared)
    (x dx : Addr) (n : Int) (t1 t2 t3 t4 t5 t6 tb : Tok) (zv fv : Value) (bs : Array UInt8) (os : List Int) (Q E : Value → Shared → Prop),
    Below A₀ base outer h₀ → Fr h₀ L s.heap m → (hb04.heap_1 w.params).In h₀ → News h₀ L s.heap ((x, instObj 280 dx) :: (dx, ringD w n t1 t2 t3 t4 t5 t6 zv fv) :: news) →
    Top V (looseW V [Str.ofString "PolynomialRing", Str.ofString "PolynomialNTT"]) mean mg mb h₀ → dp + 10 < recursionLimit → un + 80 < cLine →
    KBw.bInts bs = os → os.length ≤ 100000 → 0 ≤ n → n ≤ 256 →
    (∀ (p dp' D : Addr) (ys : List Value) (c : Nat) (t7 t8 : Tok) (h' : Heap) (tk' : Nat), n.toNat ≤ (keeps os).length → IntsAre ys ((keeps os).take n.toNat) → Fr h₀ L h' m →
      News h₀ L h' ((p, instObj 424 dp') :: (dp', polyD w t7 t8 x D) :: (D, W.listOf ys.toArray c) :: (x, instObj 280 dx) :: (dx, ringD w n t1 t2 t3 t4 t5 t6 zv fv) :: news) → Q (.ref p) { s with heap := h', toks := tk' }) →
    (∀ (e : Addr) (g h' : Heap) (tk' : Nat), (keeps os).length < n.toNat → Fr h₀ L g m → g.UpToSlots h' →
      RaisedN base (envX cn (Sc nm ig ic mo) L a ccd cl :: outer) e (.type "IndexError") ((x, instObj 280 dx) :: (dx, ringD w n t1 t2 t3 t4 t5 t6 zv fv) :: news) h' → E (.ref e) { s with heap := h', toks := tk' }) →
    wpAny (model Challenge.rw_yd0004_04.row.prog w) (ktrTop dp un gd cn (Sc nm ig ic mo) L a ccd cl outer) (call (.ref 253) [.ref x, .bytes bs tb]) Q E s

theorem conNtt (V : Program) (w : World) (mean : ExcName → Option Value) (mg mb : Str → Option Value) : ConNtt V w mean mg mb := by
  suffices h : (Challenge.rw_yd0004_04 = Challenge.rw_yd0004_04 ∧ hb04.heap_1 = hb04.heap_1) → ConNtt V w mean mg mb from h ⟨rfl, rfl⟩
  k_fill
  intro _
  unfold ConNtt
  intro dp un gd cn nm ig ic mo a ccd cl outer A₀ base h₀ L m news s x dx n t1 t2 t3 t4 t5 t6 tb zv fv bs os Q E B F X N T hd hu hos hosl hn0 hn1 hret hraise
  have hMk : KstMark := kstMark
  k_with "exec While Compare cons nil" => k_while (fun _ i j cs => SInv os n i j cs ∧ 0 ≤ i ∧ i ≤ (os.length : Int) ∧ 0 ≤ j ∧ cs.length = n.toNat) (fun _ i _ _ => os.length - i.toNat) "i" "j" "coefficients"
  k_with "state" => exact (SInv_start' os n).full
  k_with "state" => exact (turn_A hn0 (by assumption) (by assumption) (by assumption) rfl rfl rfl (by assumption) (by assumption)).full
  k_with "state" => exact (turn_B hn0 (by assumption) (by assumption) (by assumption) rfl rfl rfl (by assumption) (by assumption)).full
  k_with "state" => exact (turn_C hn0 (by assumption) (by assumption) (by assumption) rfl rfl rfl (by assumption) (by assumption)).full
  k_with "state" => exact (turn_D hn0 (by assumption) (by assumption) (by assumption) rfl rfl rfl (by assumption) (by assumption) (by assumption)).full
  k_with "state" => exact (turn_E hn0 (by assumption) (by assumption) (by assumption) rfl rfl rfl (by assumption) (by assumption) (by assumption)).full
  k_steps
  · exact hraise _ _ _ _ (SInv_out hn0 (by assumption) (by assumption) (by omega)) (by assumption) (by assumption) (raisedN_sub (by assumption) sub_tail2)
  · exact hraise _ _ _ _ (SInv_out hn0 (by assumption) (by assumption) (by omega)) (by assumption) (by assumption) (raisedN_sub (by assumption) sub_tail2)
  · exact hraise _ _ _ _ (SInv_out hn0 (by assumption) (by assumption) (by omega)) (by assumption) (by assumption) (raisedN_sub (by assumption) sub_tail2)
  · rename SInv os n _ _ _ => hI
    have hq := SInv_done hn0 hI (by assumption)
    rename IntsAre _ _ => hF
    rw [hq.2] at hF
    exact hret _ _ _ _ _ _ _ _ _ hq.1 hF (by assumption) (news_sub (by assumption) sub_mid4)
end

section
local macro_rules | `(tactic| k_room) => `(tactic| ktr_room)
local macro_rules | `(tactic| k_units) => `(tactic| ktr_units)
local macro_rules | `(tactic| kst_facts1) => `(tactic| first | (with_reducible exact IntsAre.nil) | (with_reducible assumption) | l_ints)
theorem NInv_begin {bs : Array UInt8} {W wt : Int} (h : PInv (List.map (fun c => (c.toNat : Int)) bs.toList) W wt) : NInv (valL (KBw.bInts bs)) [] [] W ∧ ([] : List Int).length = ([] : List Int).length := ⟨NInv_start (o := KBw.bInts bs) h, rfl⟩
theorem NInv_out {W : Int} {ns : List Int} {wh : Int} {vs : List Value} (hI : IntsAre vs ns) (h : NInv W (rangeKs 0 (8 - 0 : Int).toNat) ns wh) : IntsAre vs (digs 8 W) := by
  have e := h.1
  rw [rangeKs_length] at e
  rw [e] at hI
  exact hI
def ConCut (V : Program) (w : World) (mean : ExcName → Option Value) (mg mb : Str → Option Value) : Prop :=
  ∀ (dp un : Nat) (gd : Option (List Code)) (cn : Str) (nm : List (Str × NameKind)) (ig ic : Bool) (mo : List (Str × Const)) (a : Addr) (ccd : Value) (cl : List (Str × Addr)) (outer : List Env) (A₀ : Around) (base h₀ : Heap) (L : Addr) (m : Str → Option Value) (news : List (Addr × Obj)) (s : Shared)
    (tb : Tok) (bs : Array UInt8) (os : List Int) (Q E : Value → Shared → Prop),
    Below A₀ base outer h₀ → Fr h₀ L s.heap m → (hb04.heap_1 w.params).In h₀ → News h₀ L s.heap news →
    Top V (looseW V [Str.ofString "PolynomialRing", Str.ofString "PolynomialNTT"]) mean mg mb h₀ → dp + 10 < recursionLimit → un + 80 < cLine →
    KBw.bInts bs = os → os.length = 12 →
    (∀ (D : Addr) (ys : List Value) (c : Nat) (h' : Heap) (tk' : Nat), IntsAre ys (cut8 os) → Fr h₀ L h' m → News h₀ L h' ((D, W.listOf ys.toArray c) :: news) → Q (.ref D) { s with heap := h', toks := tk' }) →
    wpAny (model Challenge.rw_yd0004_04.row.prog w) (ktrTop dp un gd cn { kind := .function, names := nm, isGenerator := ig, isCoroutine := ic, more := mo } L a ccd cl outer) (call (.ref 440) [.bytes bs tb]) Q E s

theorem conCut (V : Program) (w : World) (mean : ExcName → Option Value) (mg mb : Str → Option Value) : ConCut V w mean mg mb := by
  suffices h : (Challenge.rw_yd0004_04 = Challenge.rw_yd0004_04 ∧ hb04.heap_1 = hb04.heap_1) → ConCut V w mean mg mb from h ⟨rfl, rfl⟩
  k_fill
  intro _
  unfold ConCut
  intro dp un gd cn nm ig ic mo a ccd cl outer A₀ base h₀ L m news s tb bs os Q E B F X N T hd hu hos hosl hret
  have hMk : KstMark := kstMark
  subst hos
  k_with_none
  k_with "pyIter bytes" => k_state (fun pre whole weight => PInv pre whole weight) "whole" "weight"
  k_with "state" => exact PInv_start
  k_with "state" => exact PInv_step (by assumption)
  k_with "pyIter ref" => k_state_short (fun pre numbers whole => NInv (valL (KBw.bInts bs)) pre numbers whole ∧ numbers.length = pre.length) "numbers" "whole"
  k_with "state" => exact NInv_begin (by assumption)
  k_with "state" => exact ⟨NInv_step (by assumption), by simp only [List.length_append, List.length_cons, List.length_nil]; omega⟩
  k_steps
  exact hret _ _ _ _ _ (by unfold cut8; exact NInv_out (by assumption) (by assumption)) (by assumption) (by assumption)
end

section
local macro_rules | `(tactic| k_room) => `(tactic| ktr_room)
local macro_rules | `(tactic| k_units) => `(tactic| ktr_units)
local macro_rules | `(tactic| k_all) => `(tactic| exact off1_3 (by assumption))
local macro_rules | `(tactic| walk_at "getMethod ref") => `(tactic| (k_here; k_dflt (first
  | refine' method_inst ?k1 ?k2 ?k3 ?k4 ?k5 ?k6 ?k7 ?_; (case k1 => k_asm); (case k2 => k_asm); (case k3 => k_inst); (case k4 => k_is); (case k5 => k_is); (case k6 => k_is); (case k7 => k_get); k_whole
  | (refine' kmu_sm ?k1 ?k2 ?k4 ?k5 ?k6 ?k7 ?k8 ?k9 ?k10 ?k11 ?k12 ?k13 ?k14 ?_; (case k1 => k_asm); (case k2 => k_asm); (case k4 => k_inst); (case k5 => k_is); (case k6 => k_is); (case k7 => k_is); (case k8 => k_is); (case k9 => k_is); (case k10 => k_is); (case k11 => decide +kernel); (case k12 => k_get); (case k13 => k_is); (case k14 => k_handed); k_whole)); (try dsimp only)))
theorem ne_up1 {a b : Prop} {D : Addr} {l : List (Addr × Obj)} (h : a ∧ b ∧ AllLt D l) : ∀ p ∈ l, p.1 ≠ D + 1 := fun p hp => Nat.ne_of_lt (Nat.lt_succ_of_lt (kst_ltOf h.2.2 p hp))
theorem ne_up2 {a b : Prop} {D : Addr} {l : List (Addr × Obj)} (h : a ∧ b ∧ AllLt D l) : ∀ p ∈ l, p.1 ≠ D + 1 + 1 := fun p hp => Nat.ne_of_lt (Nat.lt_succ_of_lt (Nat.lt_succ_of_lt (kst_ltOf h.2.2 p hp)))
local macro_rules | `(tactic| k_all) => `(tactic| first | exact ne_up1 (by assumption) | exact ne_up2 (by assumption))
theorem lt128a {k : Int} (h : k < 0 + ((128 - 0 : Int).toNat : Int)) : k < 128 := by omega
local macro_rules | `(tactic| walk_at "call ref") => `(tactic| (k_here; (with_reducible show wpAny _ _ (call (Value.ref 245) [Value.int _ _, Value.int _ _]) _ _ _); k_dflt (refine' conBr _ _ _ _ _ _ _ _ _ _ _ _ _ _ _ _ _ _ _ _ _ _ _ _ _ _ ?k1 ?k2 ?k3 ?k4 ?k5 ?kK ?k9 ?k10 ?kd ?ku ?_; (case k1 => k_asm); (case k2 => k_asm); (case k3 => k_asm); (case k4 => k_asm); (case k5 => k_asm); (case kK => first | exact rfl | assumption); (case k9 => first | assumption | omega | l_fact); (case k10 => first | exact lt128a (by assumption) | omega | l_fact); (case kd => first | exact Nat.le_of_ble_eq_true rfl | ktr_room); (case ku => ((have hcL9 := cLine_is); (simp only [units_under_make, units_in1, units_deeper, Around.mark_units, units_caller]); (try dsimp only [ktrTop]); omega)); k_whole; intro t9 h9 tk9 F9 N9; (try dsimp only))))
local macro_rules | `(tactic| walk_at "call builtin:pow") => `(tactic| (k_here; first | ((refine' call_pow3 (gives_pow3 _ _ _ _ _ ?he) ?_); (case he => exact brV_dec (by assumption) (lt128a (by assumption))); intro t9 tk9; (try dsimp only)) | (refine call_pow3 (gives_powinv _ _ _) ?_; intro t9 tk9; (try dsimp only))))
def ConRing (V : Program) (w : World) (mean : ExcName → Option Value) (mg mb : Str → Option Value) : Prop :=
  ∀ (dp un : Nat) (gd : Option (List Code)) (cn : Str) (nm : List (Str × NameKind)) (ig ic : Bool) (mo : List (Str × Const)) (a : Addr) (ccd : Value) (cl : List (Str × Addr)) (outer : List Env) (A₀ : Around) (base h₀ : Heap) (L : Addr) (m : Str → Option Value) (news : List (Addr × Obj)) (s : Shared)
    (Q E : Value → Shared → Prop),
    Below A₀ base outer h₀ → Fr h₀ L s.heap m → (hb04.heap_1 w.params).In h₀ → News h₀ L s.heap news →
    Top V (looseW V [Str.ofString "PolynomialRing", Str.ofString "PolynomialNTT"]) mean mg mb h₀ → dp + 10 < recursionLimit → un + 80 < cLine →
    (∀ (x dx : Addr) (t1 t2 t3 t4 t5 t6 : Tok) (zv fv : Value) (h' : Heap) (tk' : Nat), Fr h₀ L h' m → News h₀ L h' ((x, instObj 280 dx) :: (dx, ringD w 256 t1 t2 t3 t4 t5 t6 zv fv) :: news) → Q (.ref x) { s with heap := h', toks := tk' }) →
    wpAny (model Challenge.rw_yd0004_04.row.prog w) (ktrTop dp un gd cn (Sc nm ig ic mo) L a ccd cl outer) (call (.ref 280) []) Q E s
theorem conRing (V : Program) (w : World) (mean : ExcName → Option Value) (mg mb : Str → Option Value) : ConRing V w mean mg mb := by
  suffices h : (Challenge.rw_yd0004_04 = Challenge.rw_yd0004_04 ∧ hb04.heap_1 = hb04.heap_1) → ConRing V w mean mg mb from h ⟨rfl, rfl⟩
  k_fill
  intro _
  unfold ConRing
  intro dp un gd cn nm ig ic mo a ccd cl outer A₀ base h₀ L m news s Q E B F X N T hd hu hret
  have hMk : KstMark := kstMark
  k_with_none
  k_steps
  exact hret _ _ _ _ _ _ _ _ _ _ _ _ (by assumption) (news_sub (by assumption) fun p h => .tail _ (.tail _ (.tail _ h)))
def ConZero (V : Program) (w : World) (mean : ExcName → Option Value) (mg mb : Str → Option Value) : Prop :=
  ∀ (dp un : Nat) (gd : Option (List Code)) (cn : Str) (nm : List (Str × NameKind)) (ig ic : Bool) (mo : List (Str × Const)) (a : Addr) (ccd : Value) (cl : List (Str × Addr)) (outer : List Env) (A₀ : Around) (base h₀ : Heap) (L : Addr) (m : Str → Option Value) (news : List (Addr × Obj)) (s : Shared)
    (x dx : Addr) (t1 t2 t3 t4 t5 t6 : Tok) (zv fv : Value) (Q E : Value → Shared → Prop),
    Below A₀ base outer h₀ → Fr h₀ L s.heap m → (hb04.heap_1 w.params).In h₀ → News h₀ L s.heap ((x, instObj 280 dx) :: (dx, ringD w 256 t1 t2 t3 t4 t5 t6 zv fv) :: news) →
    Top V (looseW V [Str.ofString "PolynomialRing", Str.ofString "PolynomialNTT"]) mean mg mb h₀ → dp + 10 < recursionLimit → un + 80 < cLine →
    (∀ (p : Addr) (h' : Heap) (tk' : Nat), Fr h₀ L h' m → News h₀ L h' ((x, instObj 280 dx) :: (dx, ringD w 256 t1 t2 t3 t4 t5 t6 zv fv) :: news) → Q (.ref p) { s with heap := h', toks := tk' }) →
    wpAny (model Challenge.rw_yd0004_04.row.prog w) (ktrTop dp un gd cn (Sc nm ig ic mo) L a ccd cl outer) (call (.ref 42) [.ref x]) Q E s
theorem conZero (V : Program) (w : World) (mean : ExcName → Option Value) (mg mb : Str → Option Value) : ConZero V w mean mg mb := by
  suffices h : (Challenge.rw_yd0004_04 = Challenge.rw_yd0004_04 ∧ hb04.heap_1 = hb04.heap_1) → ConZero V w mean mg mb from h ⟨rfl, rfl⟩
  k_fill
  intro _
  unfold ConZero
  intro dp un gd cn nm ig ic mo a ccd cl outer A₀ base h₀ L m news s x dx t1 t2 t3 t4 t5 t6 zv fv Q E B F X N T hd hu hret
  have hMk : KstMark := kstMark
  k_with_none
  k_steps
  exact hret _ _ _ (by assumption) (news_sub (by assumption) fun p h => .tail _ (.tail _ (.tail _ (.tail _ (.tail _ h)))))
end

section
local macro_rules | `(tactic| walk_at "getMethod ref") => `(tactic| (k_here; k_dflt (first
  | refine' method_inst ?k1 ?k2 ?k3 ?k4 ?k5 ?k6 ?k7 ?_; (case k1 => k_asm); (case k2 => k_asm); (case k3 => k_inst); (case k4 => k_is); (case k5 => k_is); (case k6 => k_is); (case k7 => k_get); k_whole
  | (refine' kmu_sm ?k1 ?k2 ?k4 ?k5 ?k6 ?k7 ?k8 ?k9 ?k10 ?k11 ?k12 ?k13 ?k14 ?_; (case k1 => k_asm); (case k2 => k_asm); (case k4 => k_inst); (case k5 => k_is); (case k6 => k_is); (case k7 => k_is); (case k8 => k_is); (case k9 => k_is); (case k10 => k_is); (case k11 => decide +kernel); (case k12 => k_get); (case k13 => k_is); (case k14 => k_handed); k_whole)); (try dsimp only)))
theorem lt128 {k : Int} (h : k < 0 + ((128 - 0 : Int).toNat : Int)) : k < 128 := by omega
theorem four_add {k : Int} (h : 0 ≤ k) : 0 ≤ 4 + k ∧ 0 ≤ 16 + k ∧ 0 ≤ 28 + k := by omega
theorem four_lt {k : Int} (h : k < 0 + ((12 - 0 : Int).toNat : Int)) : 4 + k < 1000 ∧ 16 + k < 1000 ∧ 28 + k < 1000 := by omega
local macro_rules | `(tactic| walk_at "exec Try") => `(tactic| (k_here; (with_reducible show wpAny _ _ (exec (Stmt.Try _ (_ :: _) _ [] _) _) _ _ _); refine wpAny_Try_except ?_))
local macro_rules | `(tactic| walk_at "noteFrame ref") => `(tactic| (k_here; (rename RaisedN _ _ _ _ _ _ => rkX); k_dflt (refine' landed ?kb ?kf ?ku rkX ?kx ?kt ?kn ?kh ?_; (case kb => k_asm); (case kf => k_asm); (case ku => k_asm); (case kx => k_asm); (case kt => k_asm); (case kn => k_is); (case kh => exact rfl)); intro h' F' N'; (try k_sweep)))
section
variable {fa fb fc : Int → Int} {x y z used : Int} {kept : List Int}
theorem core (hG : GInv (bigN x y z fa fb fc) (rangeKs 0 (((bigN x y z fa fb fc).length : Int) - 0).toNat) kept used) :
    kept = (keeps (bigO x y z fa fb fc)).take 256 ∧ (256 ≤ (keeps (bigO x y z fa fb fc)).length → 0 < used ∧ used ≤ ((bigO x y z fa fb fc).length : Int) ∧
      256 ≤ (keeps ((bigO x y z fa fb fc).take used.toNat)).length ∧ (keeps ((bigO x y z fa fb fc).take used.toNat)).take 256 = kept ∧ (keeps ((bigO x y z fa fb fc).take (used - 1).toNat)).length < 256) := by
  refine law4_core (bigO_mod3 ..) ?_
  rw [cands_big]
  unfold GInv at hG
  have e2 : (((bigN x y z fa fb fc).length : Int) - 0).toNat = (bigN x y z fa fb fc).length := by omega
  rw [e2] at hG
  exact hG
theorem kept256 (hG : GInv (bigN x y z fa fb fc) (rangeKs 0 (((bigN x y z fa fb fc).length : Int) - 0).toNat) kept used) : kept.length ≤ 256 := by
  rw [(core hG).1, List.length_take]; omega
theorem full (hG : GInv (bigN x y z fa fb fc) (rangeKs 0 (((bigN x y z fa fb fc).length : Int) - 0).toNat) kept used) (hk : (kept.length : Int) = 256) : 256 ≤ (keeps (bigO x y z fa fb fc)).length := by
  rw [(core hG).1, List.length_take] at hk; omega
theorem clip_ok {len : Nat} {u : Int} (h0 : 0 ≤ u) (h1 : u ≤ (len : Int)) : clipAt len u = u.toNat := by
  unfold clipAt
  rw [if_neg (by omega)]
  omega
theorem clip_used (hG : GInv (bigN x y z fa fb fc) (rangeKs 0 (((bigN x y z fa fb fc).length : Int) - 0).toNat) kept used) (hk : (kept.length : Int) = 256) :
    clipAt (bigO x y z fa fb fc).length used = used.toNat ∧ clipAt (bigO x y z fa fb fc).length (used - 1) = (used - 1).toNat := by
  obtain ⟨a, b, _⟩ := (core hG).2 (full hG hk)
  exact ⟨clip_ok (by omega) b, clip_ok (by omega) (by omega)⟩
/-- fewer than 256: no answer -/
theorem abs1 (hG : GInv (bigN x y z fa fb fc) (rangeKs 0 (((bigN x y z fa fb fc).length : Int) - 0).toNat) kept used) (hk : ¬ (kept.length : Int) = 256) (hl : (256 : Int).toNat ≤ (keeps (bigO x y z fa fb fc)).length) : False := by
  have hl' : 256 ≤ (keeps (bigO x y z fa fb fc)).length := hl
  have h := (core hG).1
  rw [h, List.length_take] at hk
  omega
/-- 256 of them: an answer -/
theorem abs2 (hG : GInv (bigN x y z fa fb fc) (rangeKs 0 (((bigN x y z fa fb fc).length : Int) - 0).toNat) kept used) (hk : (kept.length : Int) = 256) (hl : (keeps (bigO x y z fa fb fc)).length < (256 : Int).toNat) : False := by
  have hl' : (keeps (bigO x y z fa fb fc)).length < 256 := hl
  have h := full hG hk
  omega
theorem abs3 (hG : GInv (bigN x y z fa fb fc) (rangeKs 0 (((bigN x y z fa fb fc).length : Int) - 0).toNat) kept used) (h : ¬ (keeps (bigO x y z fa fb fc)).take (256 : Int).toNat = kept) : False := h (core hG).1.symm
theorem abs4 (hG : GInv (bigN x y z fa fb fc) (rangeKs 0 (((bigN x y z fa fb fc).length : Int) - 0).toNat) kept used) (hk : (kept.length : Int) = 256)
    (h : (keeps ((bigO x y z fa fb fc).take (clipAt (bigO x y z fa fb fc).length used))).length < (256 : Int).toNat) : False := by
  rw [(clip_used hG hk).1] at h
  have h' : _ < 256 := h
  have := ((core hG).2 (full hG hk)).2.2.1
  omega
theorem abs5 (hG : GInv (bigN x y z fa fb fc) (rangeKs 0 (((bigN x y z fa fb fc).length : Int) - 0).toNat) kept used) (hk : (kept.length : Int) = 256)
    (h : ¬ (keeps ((bigO x y z fa fb fc).take (clipAt (bigO x y z fa fb fc).length used))).take (256 : Int).toNat = kept) : False := by
  rw [(clip_used hG hk).1] at h
  exact h ((core hG).2 (full hG hk)).2.2.2.1
theorem abs6 (hG : GInv (bigN x y z fa fb fc) (rangeKs 0 (((bigN x y z fa fb fc).length : Int) - 0).toNat) kept used) (hk : (kept.length : Int) = 256)
    (h : (256 : Int).toNat ≤ (keeps ((bigO x y z fa fb fc).take (clipAt (bigO x y z fa fb fc).length (used - 1)))).length) : False := by
  rw [(clip_used hG hk).2] at h
  have h' : 256 ≤ _ := h
  have := ((core hG).2 (full hG hk)).2.2.2.2
  omega
theorem abs7 (hG : GInv (bigN x y z fa fb fc) (rangeKs 0 (((bigN x y z fa fb fc).length : Int) - 0).toNat) kept used) (h1 : ¬ (kept.length : Int) = 256) (h2 : ¬ (kept.length : Int) < 256) : False := by
  have := kept256 hG
  omega
theorem abs8 {k : Int} (h1 : k = 256) (h2 : k < 256) : False := by omega
theorem abs9 {k : Int} (h1 : k = 1) (h2 : k = 2) : False := by omega
end
local macro_rules | `(tactic| walk_at "exec Return some") => `(tactic| (k_here; exfalso; with_reducible first | exact abs7 (by assumption) (by assumption) (by assumption) | exact abs8 (by assumption) (by assumption) | exact abs9 (by assumption) (by assumption)))
local macro_rules | `(tactic| walk_at "call builtin:isinstance") => `(tactic| (k_here; k_dflt (refine' isi_call ?k1 ?k2 ?k3 ?k4 ?_; (case k1 => k_in); (case k2 => k_types); (case k3 => k_is); (case k4 => intro e; cases e); k_whole)))
theorem news_pick {h₀ : Heap} {L : Addr} {h : Heap} {l : List (Addr × Obj)} {a b : Addr × Obj} (N : News h₀ L h l) (ha : a ∈ l) (hb : b ∈ l) : News h₀ L h (a :: b :: l) := fun p hp => by
  rcases List.mem_cons.mp hp with rfl | hp
  · exact N _ ha
  · rcases List.mem_cons.mp hp with rfl | hp
    · exact N _ hb
    · exact N _ hp
local macro_rules | `(tactic| walk_at "call ref") => `(tactic| (k_here; (with_reducible show wpAny _ _ (call (Value.ref 433) [Value.ref _, Value.int _ _]) _ _ _); k_dflt (refine' conLawAt _ _ _ _ _ _ _ _ _ _ _ _ _ _ _ _ _ _ _ _ _ _ _ _ _ _ _ _ ?k1 ?k2 ?k3 ?k4 ?k5 ?kK ?k6 ?k7 ?k8 ?k9 ?k10 ?kd ?ku ?_; (case k1 => k_asm); (case k2 => k_asm); (case k3 => k_asm); (case k4 => k_asm); (case k5 => k_asm); (case kK => first | exact rfl | assumption); (case k6 => k_asm); (case k7 => l_ints); (case k8 => l_fit); (case k9 => first | decide | exact (four_add (by assumption)).1 | exact (four_add (by assumption)).2.1 | exact (four_add (by assumption)).2.2); (case k10 => first | decide | exact (four_lt (by assumption)).1 | exact (four_lt (by assumption)).2.1 | exact (four_lt (by assumption)).2.2); (case kd => first | exact Nat.le_of_ble_eq_true rfl | ktr_room); (case ku => first | exact Nat.le_of_ble_eq_true rfl | ktr_units); k_whole; intro t9 h9 tk9 F9 N9; (try dsimp only))))
local macro_rules | `(tactic| walk_at "call ref") => `(tactic| (k_here; (with_reducible show wpAny _ _ (call (Value.ref 245) [Value.int _ _, Value.int _ _]) _ _ _); k_dflt (refine' conBr _ _ _ _ _ _ _ _ _ _ _ _ _ _ _ _ _ _ _ _ _ _ _ _ _ _ ?k1 ?k2 ?k3 ?k4 ?k5 ?kK ?k9 ?k10 ?kd ?ku ?_; (case k1 => k_asm); (case k2 => k_asm); (case k3 => k_asm); (case k4 => k_asm); (case k5 => k_asm); (case kK => first | exact rfl | assumption); (case k9 => first | assumption | omega | l_fact); (case k10 => first | exact lt128 (by assumption) | omega | l_fact); (case kd => first | exact Nat.le_of_ble_eq_true rfl | ktr_room); (case ku => first | exact Nat.le_of_ble_eq_true rfl | ktr_units); k_whole; intro t9 h9 tk9 F9 N9; (try dsimp only))))
local macro_rules | `(tactic| walk_at "call builtin:pow") => `(tactic| (k_here; first | ((refine' call_pow3 (gives_pow3 _ _ _ _ _ ?he) ?_); (case he => exact brV_dec (by assumption) (lt128 (by assumption))); intro t9 tk9; (try dsimp only)) | (refine call_pow3 (gives_powinv _ _ _) ?_; intro t9 tk9; (try dsimp only))))
local macro_rules | `(tactic| walk_at "call type:bytes") => `(tactic| (k_here; (with_reducible show wpAny _ _ (call (Value.type "bytes") [Value.ref _]) _ _ _); k_dflt (refine' make12 ?z1 ?z2 ?z3 ?z4 ?z5 ?_; (case z1 => k_asm); (case z2 => k_asm); (case z3 => rfl); (case z4 => kba_isList); (case z5 => with_reducible assumption)); intro b9 h9 t9 k9 hb9 F9 N9; (try dsimp only)))
local macro_rules | `(tactic| walk_at "binaryOp Mult bytes int") => `(tactic| (k_here; k_dflt (refine' bmulI ?z1 ?_; (case z1 => with_reducible assumption)); intro b9 t9 k9 hb9; (try dsimp only)))
local macro_rules | `(tactic| walk_at "binaryOp Add bytes bytes") => `(tactic| (k_here; k_dflt (first
  | (refine' badd2 ?z1 ?z2 ?_; (case z1 => with_reducible assumption); (case z2 => with_reducible assumption))
  | (refine' badd3 ?z1 ?z2 ?_; (case z1 => with_reducible assumption); (case z2 => with_reducible assumption))); intro b9 t9 k9 hb9; (try dsimp only)))
local macro_rules | `(tactic| walk_at "binaryOp Mult ref int") => `(tactic| (k_here; k_dflt (refine' lmulI ?z1 ?z2 ?z3 ?z4 ?_; (case z1 => k_asm); (case z2 => k_asm); (case z3 => kmk_list); (case z4 => with_reducible assumption)); intro D' ws' h' hI' F' N' l1; (try k_lt l1); (try k_sweep)))
local macro_rules | `(tactic| walk_at "binaryOp Add ref ref") => `(tactic| (k_here; (with_reducible show wpAny _ _ (binaryOp _ (Value.ref _) (Value.ref _)) _ _ _); k_dflt (first
  | (refine' ladd2 ?z1 ?z2 ?z3 ?z4 ?z5 ?z6 ?_; (case z1 => k_asm); (case z2 => k_asm); (case z3 => kmk_list); (case z4 => kmk_list); (case z5 => with_reducible assumption); (case z6 => with_reducible assumption))
  | (refine' ladd3 ?z1 ?z2 ?z3 ?z4 ?z5 ?z6 ?_; (case z1 => k_asm); (case z2 => k_asm); (case z3 => kmk_list); (case z4 => kmk_list); (case z5 => with_reducible assumption); (case z6 => with_reducible assumption))); intro D' ws' h' hI' F' N' l1; (try k_lt l1); (try k_sweep)))
local macro_rules | `(tactic| walk_at "subscriptTail") => `(tactic| (k_here; (with_reducible show wpAny _ _ (subscriptTail _ (Expr.Slice _ _ none _) (Value.bytes _ _) (Value.ref _)) _ _ _); (with_reducible rename Fr _ _ _ _ => F'); (with_reducible rename News _ _ _ _ => N'); (refine sliceI (s := ⟨_, _, _, _, _⟩) F' N' (by with_reducible assumption) ?_); intro b9 h9 t9 k9 hb9 F9 N9; (try dsimp only)))
local macro_rules | `(tactic| walk_at "call ref") => `(tactic| (k_here; (with_reducible show wpAny _ _ (call (Value.ref 440) [Value.bytes _ _]) _ _ _); k_dflt (refine' conCut _ _ _ _ _ _ _ _ _ _ _ _ _ _ _ _ _ _ _ _ _ _ _ _ _ _ _ _ _ ?k1 ?k2 ?k3 ?k4 ?k5 ?kd ?ku ?k6 ?k7 (fun D9 ys9 c9 h9 tk9 hI9 F9 N9 => ?_); (case k1 => k_asm); (case k2 => k_asm); (case k3 => k_asm); (case k4 => k_asm); (case k5 => k_asm); (case kd => first | exact Nat.le_of_ble_eq_true rfl | ktr_room); (case ku => first | exact Nat.le_of_ble_eq_true rfl | ktr_units); (case k6 => with_reducible assumption); (case k7 => exact oct12_len _); (try dsimp only))))
local macro_rules | `(tactic| walk_at "callWith ref") => `(tactic| (k_here; (with_reducible show wpAny _ _ (callWith _ (Value.ref _) _ (backTo _ (starEach [] _)) []) _ _ _); (refine' callWith_K0 ?k1 ?k2 ?_; (case k1 => k_in); (case k2 => k_is); k_whole); (try dsimp only [List.nil_append, List.append_nil, List.cons_append])))
local macro_rules | `(tactic| walk_at "call ref") => `(tactic| (k_here; (with_reducible show wpAny _ _ (call (Value.ref 280) []) _ _ _); k_dflt (refine' conRing _ _ _ _ _ _ _ _ _ _ _ _ _ _ _ _ _ _ _ _ _ _ _ _ _ _ ?k1 ?k2 ?k3 ?k4 ?k5 ?kd ?ku (fun x9 dx9 a9 b9 c9 d9 e9 f9 zv9 fv9 h9 tk9 F9 N9 => ?_); (case k1 => k_asm); (case k2 => k_asm); (case k3 => k_asm); (case k4 => k_asm); (case k5 => k_asm); (case kd => first | exact Nat.le_of_ble_eq_true rfl | ktr_room); (case ku => first | exact Nat.le_of_ble_eq_true rfl | ktr_units); (try dsimp only))))
local macro_rules | `(tactic| walk_at "call ref") => `(tactic| (k_here; (with_reducible show wpAny _ _ (call (Value.ref 42) [Value.ref _]) _ _ _); k_dflt (refine' conZero _ _ _ _ _ _ _ _ _ _ _ _ _ _ _ _ _ _ _ _ _ _ _ _ _ _ _ _ _ _ _ _ _ _ _ _ ?k1 ?k2 ?k3 ?k4 ?k5 ?kd ?ku (fun p9 h9 tk9 F9 N9 => ?_); (case k1 => k_asm); (case k2 => k_asm); (case k3 => k_asm); (case k4 => exact news_pick (by k_asm) (by k_mem) (by k_mem)); (case k5 => k_asm); (case kd => first | exact Nat.le_of_ble_eq_true rfl | ktr_room); (case ku => first | exact Nat.le_of_ble_eq_true rfl | ktr_units); (try dsimp only))))
local macro_rules | `(tactic| k_in) => `(tactic| (refine' Frag.In.keeps ?kia (Fr.keep ?kib); (case kib => with_reducible assumption); (case kia => with_reducible assumption)))
local macro_rules | `(tactic| walk_at "subscriptTail") => `(tactic| (k_here; (with_reducible show wpAny _ _ (subscriptTail _ (Expr.Slice _ _ none _) (Value.bytes _ _) (Value.ref _)) _ _ _); exfalso; with_reducible exact abs9 (k := (lawAt _ 3).fmod 3) (by assumption) (by assumption)))
theorem lenO {os : List Int} {x y z : Int} {fa fb fc : Int → Int} (h : os.length ≤ (bigO x y z fa fb fc).length) : os.length ≤ 100000 :=
  Nat.le_trans h (Nat.le_trans (bigO_le ..) (by decide))
theorem take_len {l : List Int} {k : Nat} : (l.take k).length ≤ l.length := by rw [List.length_take]; omega
local macro_rules | `(tactic| walk_at "call ref") => `(tactic| (k_here; (with_reducible show wpAny _ _ (call (Value.ref 253) [Value.ref _, Value.bytes _ _]) _ _ _); k_dflt (refine' conNtt _ _ _ _ _ _ _ _ _ _ _ _ _ _ _ _ _ _ _ _ _ _ _ _ _ _ _ _ _ _ _ _ _ _ _ _ _ _ _ _ ?k1 ?k2 ?k3 ?k4 ?k5 ?kd ?ku ?k6 ?k7 ?k8 ?k9 (fun p9 d9 D9 ys9 c9 t79 t89 h9 tk9 hl9 hI9 F9 N9 => ?_) (fun e9 g9 h9 tk9 hl9 F9 U9 R9 => ?_); (case k1 => k_asm); (case k2 => k_asm); (case k3 => k_asm); (case k4 => exact news_pick (by k_asm) (by k_mem) (by k_mem)); (case k5 => k_asm); (case kd => first | exact Nat.le_of_ble_eq_true rfl | ktr_room); (case ku => first | exact Nat.le_of_ble_eq_true rfl | ktr_units); (case k6 => with_reducible assumption); (case k7 => with_reducible first | exact lenO (Nat.le_refl _) | exact lenO take_len); (case k8 => decide); (case k9 => decide); (all_goals (try dsimp only)); (all_goals (try (exfalso; with_reducible first | exact abs1 (by assumption) (by assumption) (by assumption) | exact abs2 (by assumption) (by assumption) (by assumption) | exact abs4 (by assumption) (by assumption) (by assumption) | exact abs6 (by assumption) (by assumption) (by assumption)))))))
theorem lfit3 {x y z : Int} {fa fb fc : Int → Int} : (((bigN x y z fa fb fc).length : Nat) : Int) < 2 ^ 63 := by
  have := bigN_le x y z fa fb fc
  omega
theorem lenfit1 {k p : Nat} {x y z : Int} {fa fb fc : Int → Int} (h : k ≤ p) (hp : p < (((bigN x y z fa fb fc).length : Int) - 0).toNat) : ((k : Nat) : Int) < 2 ^ 63 := by
  have := bigN_le x y z fa fb fc
  omega
theorem lenfit2 {k : Nat} {x y z : Int} {fa fb fc : Int → Int} (h : k ≤ (rangeKs 0 (((bigN x y z fa fb fc).length : Int) - 0).toNat).length) : ((k : Nat) : Int) < 2 ^ 63 := by
  rw [rangeKs_length] at h
  have := bigN_le x y z fa fb fc
  omega
theorem szfit1 {vs : List Value} {ks : List Int} {p : Nat} {x y z : Int} {fa fb fc : Int → Int} (hi : IntsAre vs ks) (h : ks.length ≤ p) (hp : p < (((bigN x y z fa fb fc).length : Int) - 0).toNat) : vs.toArray.size ≤ sizeLine := by
  have := bigN_le x y z fa fb fc
  rw [List.size_toArray, hi.length, sizeLine_eq]
  omega
theorem bnd_hi {x y z : Int} {fa fb fc : Int → Int} : (((bigN x y z fa fb fc).length : Nat) : Int) < 2 ^ 62 := by
  have := bigN_le x y z fa fb fc
  omega
theorem bnd_lo {k : Nat} : -(2 ^ 62) ≤ ((k : Nat) : Int) := by omega
theorem z_lo : -(2 ^ 62) ≤ (0 : Int) := by omega
theorem z_hi : (0 : Int) < 2 ^ 62 := by omega
local macro_rules | `(tactic| l_bnd) => `(tactic| first | (with_reducible exact z_lo) | (with_reducible exact z_hi) | (with_reducible exact bnd_hi) | (with_reducible exact bnd_lo))
theorem it_lo {k : Int} {p : Nat} (e : k = 0 + (p : Int)) : 0 ≤ k := by omega
theorem it_hi {k : Int} {p n : Nat} (e : k = 0 + (p : Int)) (h : p < ((n : Int) - 0).toNat) : k < (n : Int) := by omega
theorem it_fit {k : Int} {p : Nat} {x y z : Int} {fa fb fc : Int → Int} (e : k = 0 + (p : Int)) (h : p < (((bigN x y z fa fb fc).length : Int) - 0).toNat) : k < 2 ^ 63 := by
  have h1 := it_hi e h
  have h2 := bnd_hi (x := x) (y := y) (z := z) (fa := fa) (fb := fb) (fc := fc)
  omega
local macro_rules | `(tactic| walk_at "subscriptTail") => `(tactic| (k_here; (with_reducible show wpAny _ _ (subscriptTail _ _ (Value.ref _) (Value.int _ _)) _ _ _); (refine' item_list_intsR ?z1 ?z2 ?z3 ?z4 ?z5 ?_; (case z1 => kmk_list); (case z2 => with_reducible assumption); (case z3 => with_reducible exact it_lo (by assumption)); (case z4 => with_reducible exact it_hi (by assumption) (by assumption)); (case z5 => with_reducible exact it_fit (by assumption) (by assumption)); intro t9; (try dsimp only))))
local macro_rules | `(tactic| size_fits) => `(tactic| with_reducible exact szfit1 (by assumption) (by assumption) (by assumption))
local macro_rules | `(tactic| walk_at "call builtin:len") => `(tactic| (k_here; (with_reducible show wpAny _ _ (call (Value.builtin "len") [Value.ref _]) _ _ _); k_dflt (refine' kst_len ?k1 ?k2 ?k3 ?k4 ?_; (case k1 => k_asm); (case k2 => k_memK); (case k3 => with_reducible exact IntsAre.length (by assumption)); (case k4 => with_reducible first | exact lfit3 | exact lenfit1 (by assumption) (by assumption) | exact lenfit2 (by assumption)); k_whole)))
local macro_rules | `(tactic| kc_close) => `(tactic| (exfalso; with_reducible first | exact abs3 (by assumption) (by assumption) | exact abs5 (by assumption) (by assumption) (by assumption)))
/- empty definitions: where one stands, the head lays no twin (a twin is large in the compiled file) -/
def law_holds.tw4503035019201841076 : Unit := ()
def law_holds.tw10983241140555628109 : Unit := ()
def law_holds.tw12800644894191811977 : Unit := ()
def law_holds.tw14160533322030094474 : Unit := ()
def law_holds.tw1414043511812021011 : Unit := ()
def law_holds.tw447027507633508388 : Unit := ()
def law_holds.tw18340598423539479173 : Unit := ()
def law_holds.tw8720880381367431298 : Unit := ()
def law_holds.tw10458381655096516384 : Unit := ()
def law_holds.tw6860709855171689206 : Unit := ()
def law_holds.tw9168033884955339765 : Unit := ()
def law_holds.tw3974387499553966400 : Unit := ()
def law_holds.tw9288214680346807717 : Unit := ()
def law_holds.tw5950301352895977177 : Unit := ()
def law_holds.tw10028117763298573888 : Unit := ()
def law_holds.tw16057390660189216267 : Unit := ()
def law_holds.tw3672438013989251361 : Unit := ()
def law_holds.tw16805829885119392726 : Unit := ()
def law_holds.tw4992725456586698614 : Unit := ()
def law_holds.tw8514742172934523775 : Unit := ()
def law_holds.tw2557128651999224082 : Unit := ()
def law_holds.tw7696488724909661519 : Unit := ()
def law_holds.tw11097350217990362986 : Unit := ()
def law_holds.tw3307954989432871184 : Unit := ()
def law_holds.tw2887050238494874643 : Unit := ()
def law_holds.tw13482675847692870326 : Unit := ()
def law_holds.tw9403268196540146800 : Unit := ()
def law_holds.tw10007947361888340627 : Unit := ()
def law_holds.tw12481875629721207810 : Unit := ()
def law_holds.tw14497384708736915567 : Unit := ()
def law_holds.tw3756308257209627903 : Unit := ()
def law_holds.tw18261290160731607033 : Unit := ()
def law_holds.tw2907507879108658156 : Unit := ()
def law_holds.tw17580165497215679439 : Unit := ()
def law_holds.tw12134408205421670959 : Unit := ()
def law_holds.tw7408472829698581751 : Unit := ()
def law_holds.tw7495221243884187115 : Unit := ()
def law_holds.tw4524032621918665186 : Unit := ()
def law_holds.tw8890443458166856008 : Unit := ()
def law_holds.tw12459966957829302596 : Unit := ()
def law_holds.tw8984152853971343422 : Unit := ()
def law_holds.tw5045712524691215523 : Unit := ()
def law_holds.tw17993387198741990920 : Unit := ()
def law_holds.tw17449644191371220912 : Unit := ()
def law_holds.tw2090888555730037645 : Unit := ()
def law_holds.tw12889056044993165476 : Unit := ()
def law_holds.tw11133525997344109421 : Unit := ()
def law_holds.tw6265907326580845545 : Unit := ()
def law_holds.tw18388893480867403737 : Unit := ()
def law_holds.tw3769339739266743318 : Unit := ()
def law_holds.tw7769649832755249146 : Unit := ()
def law_holds.tw5858263632927829637 : Unit := ()
def law_holds.tw492181902856853916 : Unit := ()
def law_holds.tw5506821171919863439 : Unit := ()
def law_holds.tw13397297893571687751 : Unit := ()
def law_holds.tw228058311090241170 : Unit := ()
def law_holds.tw6667284449218939238 : Unit := ()
def law_holds.tw17713402740875732926 : Unit := ()
def law_holds.tw11484002064277903863 : Unit := ()
def law_holds.tw14774650325386425613 : Unit := ()
def law_holds.tw1670043908289496885 : Unit := ()
def law_holds.tw2269544990204364226 : Unit := ()
def law_holds.tw179590077315354965 : Unit := ()
def law_holds.tw11303081109005220762 : Unit := ()
def law_holds.tw6896717019858035522 : Unit := ()
def law_holds.tw18135211599370774712 : Unit := ()
def law_holds.tw15472126771306010800 : Unit := ()
def law_holds.tw13429453918920967058 : Unit := ()
def law_holds.tw15609566024721092083 : Unit := ()
def law_holds.tw3850334171643177529 : Unit := ()
def law_holds.tw9606376775287448836 : Unit := ()
def law_holds.tw6746360682218282392 : Unit := ()
def law_holds.tw3186734533307500241 : Unit := ()
def law_holds.tw12116493165278983582 : Unit := ()
def law_holds.tw1031057903888850656 : Unit := ()
def law_holds.tw9945564307700969627 : Unit := ()
def law_holds.tw14326059299131336239 : Unit := ()
def law_holds.tw1701620452695913853 : Unit := ()
def law_holds.tw5920216800500632969 : Unit := ()
def law_holds.tw808278469055374699 : Unit := ()
def law_holds.tw16461882675039125421 : Unit := ()
def law_holds.tw8860054118572591635 : Unit := ()
def law_holds.tw907578622648922086 : Unit := ()
def law_holds.tw15732109348078318572 : Unit := ()
def law_holds.tw11690447701083486646 : Unit := ()
def law_holds.tw18405825783785185168 : Unit := ()
def law_holds.tw16760957895259694429 : Unit := ()
def law_holds.tw15661869461025623997 : Unit := ()
def law_holds.tw15333956030411951890 : Unit := ()
def law_holds.tw15726739188670627701 : Unit := ()
def law_holds.tw2152083551845799040 : Unit := ()
def law_holds.tw18090433342136740992 : Unit := ()
def law_holds.tw13983371404066579822 : Unit := ()
def law_holds.tw3776956092104397036 : Unit := ()
def law_holds.tw15150646450996357022 : Unit := ()
def law_holds.tw4581845663705801772 : Unit := ()
def law_holds.tw9423440377400516374 : Unit := ()
def law_holds.tw11426015686315989412 : Unit := ()
def law_holds.tw6499956759230125245 : Unit := ()
def law_holds.tw5981114437932730796 : Unit := ()
def law_holds.tw11100686419730198450 : Unit := ()
def law_holds.tw2078624436916829710 : Unit := ()
def law_holds.tw10516828495840041881 : Unit := ()
def law_holds.tw15154110283740273250 : Unit := ()
def law_holds.tw3682559726232862161 : Unit := ()
def law_holds.tw12294597709558488554 : Unit := ()
def law_holds.tw14822640431511872941 : Unit := ()
def law_holds.tw10222300733896627045 : Unit := ()
def law_holds.tw14925382992726071281 : Unit := ()
def law_holds.tw18051328159682125866 : Unit := ()
def law_holds.tw3438298445031660282 : Unit := ()
def law_holds.tw1905533677188600702 : Unit := ()
def law_holds.tw3940814190209492080 : Unit := ()
def law_holds.tw16935243356766158856 : Unit := ()
def law_holds.tw59864651932915081 : Unit := ()
def law_holds.tw4329158554759489670 : Unit := ()
def law_holds.tw41732636909640268 : Unit := ()
def law_holds.tw1762888911704233025 : Unit := ()
def law_holds.tw16470317323979864763 : Unit := ()
def law_holds.tw6751701741844952029 : Unit := ()
def law_holds.tw2618386414584295968 : Unit := ()
def law_holds.tw5389484754426515990 : Unit := ()
def law_holds.tw11017292853192552079 : Unit := ()
def law_holds.tw8249079356659094474 : Unit := ()
def law_holds.tw9849722394096787677 : Unit := ()
def law_holds.tw12296726922439171297 : Unit := ()
def law_holds.tw15269669892144856819 : Unit := ()
def law_holds.tw4889031023730116350 : Unit := ()
def law_holds.tw13766487248619392586 : Unit := ()
def law_holds.tw14064573792008682920 : Unit := ()
def law_holds.tw10767655046202684341 : Unit := ()
def law_holds.tw17253691774821329096 : Unit := ()
def law_holds.tw8857742495270377987 : Unit := ()
def law_holds.tw1928719863018725356 : Unit := ()
def law_holds.tw8570087061310353148 : Unit := ()
def law_holds.tw6159533029260741167 : Unit := ()
def law_holds.tw10666784280354678857 : Unit := ()
def law_holds.tw1053317679998426468 : Unit := ()
def law_holds.tw9187647767651647856 : Unit := ()
def law_holds.tw2006301483956418059 : Unit := ()
def law_holds.tw4643041051132140158 : Unit := ()
def law_holds.tw2075624079617657780 : Unit := ()
def law_holds.tw3850375180904979519 : Unit := ()
def law_holds.tw12149405283708829123 : Unit := ()
def law_holds.tw8572072892066365893 : Unit := ()
def law_holds.tw9875236377963488844 : Unit := ()
def law_holds.tw3494445600050047599 : Unit := ()
def law_holds.tw7221428835167493151 : Unit := ()
def law_holds.tw10371022188087798493 : Unit := ()
def law_holds.tw18221580467831097590 : Unit := ()
def law_holds.tw7544913113114293122 : Unit := ()
def law_holds.tw10958410103948607464 : Unit := ()
def law_holds.tw14789792462180790578 : Unit := ()
def law_holds.tw17942499455142895165 : Unit := ()
def law_holds.tw13092103797297032270 : Unit := ()
def law_holds.tw5117662029339320154 : Unit := ()
def law_holds.tw11586273756423631628 : Unit := ()
def law_holds.tw9779807473162285230 : Unit := ()
def law_holds.tw4441770287765753910 : Unit := ()
def law_holds.tw2788888992717563140 : Unit := ()
def law_holds.tw7775064044895347852 : Unit := ()
def law_holds.tw12456547296908542839 : Unit := ()
def law_holds.tw13182730311906835528 : Unit := ()
def law_holds.tw13220211186989608806 : Unit := ()
def law_holds.tw784011647948385275 : Unit := ()
def law_holds.tw6677821561840896501 : Unit := ()
def law_holds.tw12684681026606017882 : Unit := ()
def law_holds.tw3979707639553702691 : Unit := ()
def law_holds.tw6260460797876433568 : Unit := ()
def law_holds.tw602461330855297101 : Unit := ()
def law_holds.tw16429593205651750483 : Unit := ()
def law_holds.tw16106779387088534511 : Unit := ()
def law_holds.tw4037582482628031876 : Unit := ()
def law_holds.tw15274831704391544125 : Unit := ()
def law_holds.tw7120836010843673076 : Unit := ()
def law_holds.tw160851071654074740 : Unit := ()
def law_holds.tw7404543985812422374 : Unit := ()
def law_holds.tw9317688335297629284 : Unit := ()
def law_holds.tw6333624483447246961 : Unit := ()
def law_holds.tw723553956927101924 : Unit := ()
def law_holds.tw13800757232730249582 : Unit := ()
def law_holds.tw3742325753681652743 : Unit := ()
def law_holds.tw17255088995462705879 : Unit := ()
def law_holds.tw10264638600885302300 : Unit := ()
def law_holds.tw1689763614830377041 : Unit := ()
def law_holds.tw3253820488102484341 : Unit := ()
def law_holds.tw6553333263825352884 : Unit := ()
def law_holds.tw575232530192455986 : Unit := ()
def law_holds.tw17017474048681760003 : Unit := ()
def law_holds.tw4492043994082249198 : Unit := ()
def law_holds.tw10968802771074238664 : Unit := ()
def law_holds.tw7910590604623066228 : Unit := ()
def law_holds.tw1909877003179415225 : Unit := ()
def law_holds.tw10566571302883470556 : Unit := ()
def law_holds.tw14354538779393863138 : Unit := ()
def law_holds.tw15759456685926392790 : Unit := ()
def law_holds.tw10817052189556005596 : Unit := ()
def law_holds.tw14983226153234331074 : Unit := ()
def law_holds.tw2055734563569237896 : Unit := ()
def law_holds.tw13280740594461564331 : Unit := ()
def law_holds.tw2856731137302751260 : Unit := ()
def law_holds.tw13392613628428298086 : Unit := ()
def law_holds.tw10346744231138586394 : Unit := ()
def law_holds.tw11966672015165255308 : Unit := ()
def law_holds.tw15014403891855920072 : Unit := ()
def law_holds.tw2442502879453312968 : Unit := ()
def law_holds.tw6564709946809587534 : Unit := ()
def law_holds.tw17180001009569633970 : Unit := ()
def law_holds.tw10024239376800412576 : Unit := ()
def law_holds.tw3896150654470677357 : Unit := ()
def law_holds.tw17183477848116922584 : Unit := ()
def law_holds.tw15607887362523206001 : Unit := ()
def law_holds.tw8472228645029834797 : Unit := ()
def law_holds.tw6911747868599837429 : Unit := ()
def law_holds.tw8957123355933967898 : Unit := ()
def law_holds.tw16462895619179043833 : Unit := ()
def law_holds.tw7472407996622490835 : Unit := ()
def law_holds.tw8970147916757833333 : Unit := ()
def law_holds.tw17598101756349436640 : Unit := ()
def law_holds.tw11297062200503488469 : Unit := ()
def law_holds.tw2102315897755806987 : Unit := ()
def law_holds.tw519298541982818421 : Unit := ()
def law_holds.tw16883458599210261866 : Unit := ()
def law_holds.tw17345407343664743607 : Unit := ()
def law_holds.tw12303009252429188658 : Unit := ()
def law_holds.tw16406091861079842607 : Unit := ()
def law_holds.tw17253903310271361901 : Unit := ()
def law_holds.tw14498155544194170393 : Unit := ()
def law_holds.tw18155623678392573649 : Unit := ()
def law_holds.tw4072507727158212662 : Unit := ()
def law_holds.tw13478230802861573701 : Unit := ()
def law_holds.tw8441880690091102137 : Unit := ()
def law_holds.tw12889673554181485818 : Unit := ()
def law_holds.tw15006436103509636135 : Unit := ()
def law_holds.tw14377833709258309704 : Unit := ()
def law_holds.tw15883345262158282383 : Unit := ()
def law_holds.tw2578278018795888234 : Unit := ()
def law_holds.tw10189704592693192966 : Unit := ()
def law_holds.tw4008084134468147086 : Unit := ()
def law_holds.tw850272041215511910 : Unit := ()
def law_holds.tw10188763426450519768 : Unit := ()
def law_holds.tw8806649888931605024 : Unit := ()
def law_holds.tw12108977868540685583 : Unit := ()
def law_holds.tw14571795756577361901 : Unit := ()
def law_holds.tw12949845418750544790 : Unit := ()
def law_holds.tw14289194402921355359 : Unit := ()
def law_holds.tw5037970770195530229 : Unit := ()
def law_holds.tw1377309892636839040 : Unit := ()
def law_holds.tw12645607732203181651 : Unit := ()
def law_holds.tw4818577856007422655 : Unit := ()
def law_holds.tw8909828626151137519 : Unit := ()
def law_holds.tw2887994833065977647 : Unit := ()
def law_holds.tw3258674603298201628 : Unit := ()
def law_holds.tw9887912731928775018 : Unit := ()
def law_holds.tw12780804625047726367 : Unit := ()
def law_holds.tw18254337876149969668 : Unit := ()
def law_holds.tw8481075993509181622 : Unit := ()
def law_holds.tw10368410895845634921 : Unit := ()
def law_holds.tw972601921857779769 : Unit := ()
def law_holds.tw660297872995803996 : Unit := ()
def law_holds.tw3005452535816212104 : Unit := ()
def law_holds.tw11977050620070087417 : Unit := ()
def law_holds.tw4593294709026258786 : Unit := ()
def law_holds.tw8040771413219435098 : Unit := ()
def law_holds.tw15162217921772873613 : Unit := ()
def law_holds.tw2175471002772951711 : Unit := ()
def law_holds.tw6719018230134327050 : Unit := ()
def law_holds.tw3110860835449505704 : Unit := ()
def law_holds.tw653560878884961445 : Unit := ()
def law_holds.tw4916342969005030805 : Unit := ()
def law_holds.tw8591876402714022951 : Unit := ()
def law_holds.tw14988988175077273356 : Unit := ()
def law_holds.tw11182679623053108816 : Unit := ()
def law_holds.tw11463670642173560981 : Unit := ()
def law_holds.tw11264427193644136226 : Unit := ()
def law_holds.tw2782584491509435139 : Unit := ()
def law_holds.tw12394330538082041428 : Unit := ()
def law_holds.tw5112083995522966620 : Unit := ()
def law_holds.tw607667584577438428 : Unit := ()
def law_holds.tw3910120701321347557 : Unit := ()
def law_holds.tw13028658284911697911 : Unit := ()
def law_holds.tw14883556706271630602 : Unit := ()
def law_holds.tw16332274672890094952 : Unit := ()
def law_holds.tw12831907817818079685 : Unit := ()
def law_holds.tw10242277825702978295 : Unit := ()
def law_holds.tw17911580528928914924 : Unit := ()
def law_holds.tw631266038723830076 : Unit := ()
def law_holds.tw15123554796541802991 : Unit := ()
def law_holds.tw4614512636035447770 : Unit := ()
def law_holds.tw8634839017697508684 : Unit := ()
def law_holds.tw9529696498207198238 : Unit := ()
def law_holds.tw1832781179975386347 : Unit := ()
def law_holds.tw15829985883664642994 : Unit := ()
def law_holds.tw3850404396616230974 : Unit := ()
def law_holds.tw8835965917227929528 : Unit := ()
def law_holds.tw7484302960587174374 : Unit := ()
def law_holds.tw908389787484368193 : Unit := ()
def law_holds.tw10108825076125807744 : Unit := ()
def law_holds.tw3046938939346580660 : Unit := ()
def law_holds.tw16963379459963715452 : Unit := ()
def law_holds.tw11330957891505755796 : Unit := ()
def law_holds.tw2136269947727277649 : Unit := ()
def law_holds.tw8666519363043736892 : Unit := ()
def law_holds.tw1973129929022764952 : Unit := ()
def law_holds.tw8386679336120195906 : Unit := ()
def law_holds.tw14385925486924208373 : Unit := ()
def law_holds.tw6861490101519172755 : Unit := ()
def law_holds.tw8191475993861738794 : Unit := ()
def law_holds.tw13154458805202713791 : Unit := ()
def law_holds.tw5451054884063135654 : Unit := ()
def law_holds.tw11956458263131016624 : Unit := ()
def law_holds.tw13958071646730322851 : Unit := ()
def law_holds.tw17499823404086765753 : Unit := ()
def law_holds.tw5989267464594152519 : Unit := ()
def law_holds.tw18234560199702728603 : Unit := ()
def law_holds.tw1268281656645113316 : Unit := ()
def law_holds.tw3882201998751590657 : Unit := ()
def law_holds.tw8854015012368427407 : Unit := ()
def law_holds.tw3136910860242942599 : Unit := ()
def law_holds.tw11223184984439025696 : Unit := ()
def law_holds.tw15617896438947887921 : Unit := ()
def law_holds.tw3808703085821546077 : Unit := ()
def law_holds.tw1791086108937442324 : Unit := ()
def law_holds.tw194939583717160490 : Unit := ()
def law_holds.tw8984712037535005518 : Unit := ()
def law_holds.tw18430954121086234272 : Unit := ()
def law_holds.tw8652346329174877282 : Unit := ()
def law_holds.tw13650905803964671038 : Unit := ()
def law_holds.tw7089819591129360890 : Unit := ()
def law_holds.tw1622690429015379626 : Unit := ()
def law_holds.tw12874571214893485439 : Unit := ()
def law_holds.tw3390839446522356110 : Unit := ()
def law_holds.tw5480795135073391753 : Unit := ()
def law_holds.tw7311554392007033315 : Unit := ()
def law_holds.tw11404014056486942332 : Unit := ()
def law_holds.tw17899081815984039989 : Unit := ()
def law_holds.tw7304591109411159013 : Unit := ()
def law_holds.tw14904137174637212347 : Unit := ()
def law_holds.tw4146061822495498468 : Unit := ()
def law_holds.tw14281342344845405768 : Unit := ()
def law_holds.tw14681529260743065190 : Unit := ()
def law_holds.tw15140378357190847165 : Unit := ()
def law_holds.tw6776455111828631412 : Unit := ()
def law_holds.tw5212653520564569363 : Unit := ()
def law_holds.tw17974257514489008736 : Unit := ()
def law_holds.tw5731563423909890137 : Unit := ()
def law_holds.tw4439653461905209652 : Unit := ()
def law_holds.tw10609929442622069884 : Unit := ()
def law_holds.tw123295346585929383 : Unit := ()
def law_holds.tw9207643191828677137 : Unit := ()
def law_holds.tw6709271908398517637 : Unit := ()
def law_holds.tw2043166853727251185 : Unit := ()
def law_holds.tw2644310842459337959 : Unit := ()
def law_holds.tw9758593294864014727 : Unit := ()
def law_holds.tw8312341600987523519 : Unit := ()
def law_holds.tw13342137609418717338 : Unit := ()
def law_holds.tw13402424001964919149 : Unit := ()
def law_holds.tw5640673133297012132 : Unit := ()
def law_holds.tw14646867148444618371 : Unit := ()
def law_holds.tw3028213030429885723 : Unit := ()
def law_holds.tw13336368349410954346 : Unit := ()
def law_holds.tw2016121425191149895 : Unit := ()
def law_holds.tw8549365171731915398 : Unit := ()
def law_holds.tw498061464947678834 : Unit := ()
def law_holds.tw12291295341487003417 : Unit := ()
def law_holds.tw10465528174321978529 : Unit := ()
def law_holds.tw1258919526383655059 : Unit := ()
def law_holds.tw15352839923633478061 : Unit := ()
def law_holds.tw12001131798957381970 : Unit := ()
def law_holds.tw15293083901398250104 : Unit := ()
def law_holds.tw6869992995446874880 : Unit := ()
def law_holds.tw9992725586745946429 : Unit := ()
def law_holds.tw2667362832866536986 : Unit := ()
def law_holds.tw14531881819706719225 : Unit := ()
def law_holds.tw445335354869643106 : Unit := ()
def law_holds.tw4781243967656130014 : Unit := ()
def law_holds.tw9634471323475708679 : Unit := ()
def law_holds.tw13431030151845061361 : Unit := ()
def law_holds.tw13281950902743806629 : Unit := ()
def law_holds.tw3033269912633744064 : Unit := ()
def law_holds.tw14997073306097389879 : Unit := ()
def law_holds.tw14596297492920191028 : Unit := ()
def law_holds.tw8061732933902216757 : Unit := ()
def law_holds.tw15644819842384902770 : Unit := ()
def law_holds.tw16098122237329998606 : Unit := ()
def law_holds.tw12977093529070104392 : Unit := ()
def law_holds.tw7185456241796803578 : Unit := ()
def law_holds.tw15694993059591697976 : Unit := ()
def law_holds.tw8330938851228082562 : Unit := ()
def law_holds.tw881140697980615281 : Unit := ()
def law_holds.tw8829074647290719032 : Unit := ()
def law_holds.tw12663309570017281627 : Unit := ()
def law_holds.tw1685627985566243432 : Unit := ()
def law_holds.tw607795012822917213 : Unit := ()
def law_holds.tw293627430662643474 : Unit := ()
def law_holds.tw5062152199769849712 : Unit := ()
def law_holds.tw2322801206320994539 : Unit := ()
def law_holds.tw1550374771381668074 : Unit := ()
def law_holds.tw14335913921861858828 : Unit := ()
def law_holds.tw12622292602297523153 : Unit := ()
def law_holds.tw18006792725990754497 : Unit := ()
def law_holds.tw14545874151571354728 : Unit := ()
def law_holds.tw1767730674963353768 : Unit := ()
def law_holds.tw8763168800255643514 : Unit := ()
def law_holds.tw15272395603832836080 : Unit := ()
def law_holds.tw10093380194815717143 : Unit := ()
def law_holds.tw2139172203440323022 : Unit := ()
def law_holds.tw16612359704951912572 : Unit := ()
def law_holds.tw11609493526922420660 : Unit := ()
def law_holds.tw11924911360389889469 : Unit := ()
def law_holds.tw5364902710198789758 : Unit := ()
def law_holds.tw8804120190785687885 : Unit := ()
def law_holds.tw17169043682955552997 : Unit := ()
def law_holds.tw12476058986133298565 : Unit := ()
def law_holds.tw3049941959672503198 : Unit := ()
def law_holds.tw1778412455037948541 : Unit := ()
def law_holds.tw10812634152524527747 : Unit := ()
def law_holds.tw3572487005457819259 : Unit := ()
def law_holds.tw9682718004065560343 : Unit := ()
def law_holds.tw11098625913536864229 : Unit := ()
def law_holds.tw6317479115527610633 : Unit := ()
def law_holds.tw17137235678499792623 : Unit := ()
def law_holds.tw15802469936163623734 : Unit := ()
def law_holds.tw1186782194237197914 : Unit := ()
def law_holds.tw8785698371604719795 : Unit := ()
def law_holds.tw12342728606916771844 : Unit := ()
def law_holds.tw1989176631692091739 : Unit := ()
def law_holds.tw6041440012092600215 : Unit := ()
def law_holds.tw4995542688137877417 : Unit := ()
def law_holds.tw8553002610548859549 : Unit := ()
def law_holds.tw9552830710289189752 : Unit := ()
def law_holds.tw16190678330180157336 : Unit := ()
def law_holds.tw9184033795430018204 : Unit := ()
def law_holds.tw8715444014776630742 : Unit := ()
def law_holds.tw10726639523019406850 : Unit := ()
def law_holds.tw15448297888555860652 : Unit := ()
def law_holds.tw724200737284857819 : Unit := ()
def law_holds.tw4464252984393422682 : Unit := ()
def law_holds.tw11764581739189218997 : Unit := ()
def law_holds.tw4273555757443719353 : Unit := ()
def law_holds.tw6934448944433832347 : Unit := ()
def law_holds.tw17027635718292003107 : Unit := ()
def law_holds.tw1285599515219305098 : Unit := ()
def law_holds.tw11795792742502079742 : Unit := ()
def law_holds.tw1335265377702380343 : Unit := ()
def law_holds.tw17028624522117568015 : Unit := ()
def law_holds.tw11289095316329951393 : Unit := ()
def law_holds.tw11946022803392826334 : Unit := ()
def law_holds.tw13250372474279835810 : Unit := ()
def law_holds.tw3012480247710183994 : Unit := ()
def law_holds.tw13780023080261437657 : Unit := ()
def law_holds.tw3956099054510807996 : Unit := ()
def law_holds.tw11666318101497114028 : Unit := ()
def law_holds.tw17237755526102222789 : Unit := ()
def law_holds.tw3959601488294255719 : Unit := ()
def law_holds.tw16873799427995575018 : Unit := ()
def law_holds.tw6765152471904792315 : Unit := ()
def law_holds.tw11097158420108258118 : Unit := ()
def law_holds.tw13301187468288870568 : Unit := ()
def law_holds.tw3756957479349018193 : Unit := ()
def law_holds.tw13294052699122959228 : Unit := ()
def law_holds.tw3595789414353437717 : Unit := ()
def law_holds.tw17830944117370523080 : Unit := ()
def law_holds.tw6674817763981286723 : Unit := ()
def law_holds.tw7407239408455114201 : Unit := ()
def law_holds.tw11470271118054631628 : Unit := ()
def law_holds.tw15806970514647361693 : Unit := ()
def law_holds.tw16099233806120587224 : Unit := ()
def law_holds.tw17942709131360195518 : Unit := ()
def law_holds.tw12223724995276690173 : Unit := ()
def law_holds.tw3955097671198598788 : Unit := ()
def law_holds.tw10350734228115807855 : Unit := ()
def law_holds.tw18269650602155537469 : Unit := ()
def law_holds.tw12732824653754844360 : Unit := ()
def law_holds.tw8369274380968253667 : Unit := ()
def law_holds.tw7767266014307106701 : Unit := ()
def law_holds.tw981846192996546977 : Unit := ()
def law_holds.tw302768837105346163 : Unit := ()
def law_holds.tw2295933128562542503 : Unit := ()
def law_holds.tw6189876280036216102 : Unit := ()
def law_holds.tw9255152265573255198 : Unit := ()
def law_holds.tw7566432030715092817 : Unit := ()
def law_holds.tw15544829507116839252 : Unit := ()
def law_holds.tw12835091436910803158 : Unit := ()
def law_holds.tw3158129796062787159 : Unit := ()
def law_holds.tw2303879751551577860 : Unit := ()
def law_holds.tw745255978533919091 : Unit := ()
def law_holds.tw10362271348294423435 : Unit := ()
def law_holds.tw12115171985352901274 : Unit := ()
def law_holds.tw13342518741750886279 : Unit := ()
def law_holds.tw14892801356780361778 : Unit := ()
def law_holds.tw8417186165934385351 : Unit := ()
def law_holds.tw5914491427308094424 : Unit := ()
def law_holds.tw18203989763732354715 : Unit := ()
def law_holds.tw17264387287909652857 : Unit := ()
def law_holds.tw7019463264422422977 : Unit := ()
def law_holds.tw12419048959643632839 : Unit := ()
def law_holds.tw13882729330811710610 : Unit := ()
def law_holds.tw4030767218360268280 : Unit := ()
def law_holds.tw11347954631545130290 : Unit := ()
def law_holds.tw15522444059895599089 : Unit := ()
def law_holds.tw2387193687640843687 : Unit := ()
def law_holds.tw13190703287169160282 : Unit := ()
def law_holds.tw16978406815995349258 : Unit := ()
def law_holds.tw14957179600199517237 : Unit := ()
def law_holds.tw17470365217354309832 : Unit := ()
def law_holds.tw10027879121665395642 : Unit := ()
def law_holds.tw16691439815215545270 : Unit := ()
def law_holds.tw12687621791434340054 : Unit := ()
def law_holds.tw16381176275627223697 : Unit := ()
def law_holds.tw6723812968561706957 : Unit := ()
def law_holds.tw8545968567494951613 : Unit := ()
def law_holds.tw11714151634956498000 : Unit := ()
def law_holds.tw4594515247299072714 : Unit := ()
def law_holds.tw11803358882649189518 : Unit := ()
def law_holds.tw1722738952054099684 : Unit := ()
def law_holds.tw4741859662064258567 : Unit := ()
def law_holds.tw1172607208729018732 : Unit := ()
def law_holds.tw8285764192309689115 : Unit := ()
def law_holds.tw15341342317828512493 : Unit := ()
def law_holds.tw7636989558263936852 : Unit := ()
def law_holds.tw5907203647135998699 : Unit := ()
set_option Elab.async true
theorem law_holds : PySem.Challenge.rw_yd0004_04.Holds := by
  w_on; o_law; k_head; (case hw => w_witness2)
  k_with_none
  k_with "pyIter ref" => k_state_given ["numbers"] (fun nums pre kept used => GInv nums pre kept used ∧ kept.length ≤ pre.length) "kept" "used"
  k_with "state" => exact ⟨GInv_start _, Nat.le_refl _⟩
  k_with "state" => exact ⟨GInv_A (by assumption) (by assumption) (by assumption), by simp only [List.length_append, List.length_cons, List.length_nil]; omega⟩
  k_with "state" => exact ⟨GInv_B (by assumption) (by assumption), by simp only [List.length_append, List.length_cons, List.length_nil]; omega⟩
  k_with "state" => exact ⟨GInv_C (by assumption) (by assumption), by simp only [List.length_append, List.length_cons, List.length_nil]; omega⟩
  k_go0
  all_goals try k_fold
  have hK9 : _root_.Mine.law_holds.heap_1_39 = hb04.heap_1 := rfl
  (rename Frag.In _ _ => hKX9)
  rw [hK9] at hKX9
  clear hK9
  (rename Fr _ _ _ _ => hF0)
  obtain ⟨m0, hF1⟩ : ∃ m0, Fr _ _ _ m0 := ⟨_, hF0⟩
  clear hF0
  k_steps
  all_goals (try k_data)
end
end Mine
theorem PySem.Challenge.cw_yd0004_04_holds : PySem.Challenge.rw_yd0004_04.Holds := by
  exact Mine.law_holds
