import PyProof.Rows.All
import Wide.All
import OpenK.AllK
import Wide.FinOn
import Lean
import PySem.Challenge.RW_ta0063_01
open PySem PySem.W PyProof.Rows PySem.Calls
set_option Elab.async false
set_option maxRecDepth 100000
set_option linter.unusedVariables false
set_option compiler.extract_closed false
namespace Mine

-- NEEDS:
/-- keeps a goal of the head's (the top's run) apart: o_head then finds it by its name and does not lay pieces -/
theorem keep {p q : Program} {loose : List Str} {Xt : Shared → Bool} {α : Type} {Yf : Shared → α} {Ya : World → α} {N : Nat} {g0 : Bool} {B C : Prop} (m : C) (hl : LeftO p q loose Xt Yf Ya N g0) (hc : B) : C := m
theorem both_true {a b : Bool} (x : a = true) (y : b = true) : (a && b) = true := by rw [x, y]; rfl
/-- the looks at the law, one by one (o_law would write a twin of the program) -/
theorem well : PySem.Challenge.rw_ta0063_01.wellSaid = true := by
  unfold OpenLaw.wellSaid OpenRow.wellSaid OpenRow.partSaid looksOpen
  repeat' with_reducible refine both_true ?_ ?_
  all_goals decide +kernel
set_option maxHeartbeats 8000000 in
noncomputable def hd : (W : Prop) ×' (W → PySem.Challenge.rw_ta0063_01.Holds) := by
  apply PSigma.mk
  intro walk
  w_on
  refine holds_law well fun said => ?_
  apply keep
  rotate_left
  refine ?hl
  rotate_left
  refine ?hc
  case m =>
    k_head
    (case hw => w_witness2)
  w_top off
  case hc => exact walk
  case hl =>
    intro w
    unfold openEnds fencedOpening topFrom
    rewrite [PySem.W.Fast.te14364793385576792824, PySem.W.Fast.te10274390034422433532, PySem.W.Fast.te14082659384304107361, PySem.W.Fast.te4187177175401517315, PySem.W.Fast.te14289696077712309145, PySem.W.Fast.te1435165496053646825]
    kernel_rfl

-- NEEDS:
section
open PySem.F

theorem attrs_pat : PlainAttrs "re.Pattern" :=
  ⟨⟨"object.__getattribute__", by rw [typeLookup_type, builtinLookup_eq_fast]; kernel_rfl, by decide +kernel⟩, by rw [typeLookup_type, builtinLookup_eq_fast]; kernel_rfl⟩
theorem slot_search : Slot "re.Pattern" "search" "re.Pattern.search" :=
  .of (owner := "re.Pattern") (n := "search") (by rw [typeLookup_type, builtinLookup_eq_fast]; kernel_rfl) (by decide +kernel) (by decide +kernel) (by decide +kernel)
    (by first | exact .inl (by decide +kernel) | exact .inr (by decide +kernel)) (by rw [isSubtype_type]; kernel_rfl)
theorem type_search : typeOf (.builtin "re.Pattern.search") = pure (.type "method_descriptor") := by show builtinType _ = _; rw [builtinType_eq_fast]; kernel_rfl
theorem entry_search : entryFor table "re.Pattern.search" = some Builtin.«re.Pattern.search» := entryFor_of_tree (by kernel_rfl)
theorem owner_pat : Manifest.owners.lookup (String.ofList ['n', 'r', 'e', 't', 't', 'a', 'P', '.', 'e', 'r'].reverse) = some Manifest.sig_re_Pattern := by kernel_rfl
theorem args_search (a b : Value) : argsOk "re.Pattern.search" ⟨[a, b], []⟩ := by
  unfold argsOk; rw [signature?_of (id := "re.Pattern.search") (n := ['h', 'c', 'r', 'a', 'e', 's']) (o := ['n', 'r', 'e', 't', 't', 'a', 'P', '.', 'e', 'r']) (by kernel_rfl) owner_pat]; kernel_rfl

end

/-- signs that no Headers pattern refuses -/
noncomputable def Plain (x : Str) : Prop := ∀ c ∈ x.cps, 32 ≤ c ∧ c < 127

noncomputable def codeN : Array Nat := #[14, 10, 4, 1, 1, 22, 0, 31, 16, 127, 0, 13, 7, 22, 0, 31, 16, 127, 0, 1]
noncomputable def codeV : Array Nat := #[14, 14, 4, 1, 1, 9, 4294966783, 0, 0, 2147483648, 0, 0, 0, 0, 0, 13, 11, 9, 4294966783, 0, 0, 2147483648, 0, 0, 0, 0, 0, 1]

theorem setN {c : Nat} (h1 : 32 ≤ c) (h2 : c < 127) (seen : Sre.Seen) : ∃ seen', Sre.inSet codeN c codeN.size 5 true seen = .ok (false, seen') := by
  have e1 : (decide (0 ≤ c) && decide (c ≤ 31)) = false := by simp; omega
  have e2 : (c == 127) = false := by simp; omega
  refine ⟨((seen.add 22).add 16).add 0, ?_⟩
  show (if (decide (0 ≤ c) && decide (c ≤ 31)) = true then _ else (if (c == 127) = true then _ else _)) = _
  rw [e1, e2]
  rfl
theorem charset_no : ∀ c, c < 127 → 32 ≤ c → (decide (c < 256) && (codeV.getD (5 + (1 + c / 32)) 0).testBit (c % 32)) = false := by decide +kernel
theorem setV {c : Nat} (h1 : 32 ≤ c) (h2 : c < 127) (seen : Sre.Seen) : ∃ seen', Sre.inSet codeV c codeV.size 5 true seen = .ok (false, seen') := by
  refine ⟨(seen.add 9).add 0, ?_⟩
  show (if (decide (c < 256) && (codeV.getD (5 + (1 + c / 32)) 0).testBit (c % 32)) = true then _ else _) = _
  rw [charset_no c h2 h1]
  rfl
theorem none_admitted (m : Sre.M) (H : ∀ c, 32 ≤ c → c < 127 → ∀ seen, ∃ seen', Sre.inSet m.code c m.code.size 5 true seen = .ok (false, seen'))
    (hl : m.lim = m.text.size) (ht : ∀ c ∈ m.text, 32 ≤ c ∧ c < 127) (fuel : Nat) : ∀ (s : Nat) (seen : Sre.Seen), ∃ seen', m.admitted fuel s seen = .ok (none, seen') := by
  induction fuel with
  | zero => exact fun _ seen => ⟨seen, rfl⟩
  | succ fuel ih =>
    intro s seen
    unfold Sre.M.admitted
    by_cases hs : s ≥ m.lim
    · exact ⟨seen, by rw [if_pos hs]⟩
    · rw [if_neg hs]
      have hlt : s < m.text.size := by omega
      have hc := ht (m.text.getD s 0) (by rw [Array.getD_eq_getD_getElem?, Array.getElem?_eq_getElem hlt]; exact Array.getElem_mem hlt)
      obtain ⟨seen', e⟩ := H _ hc.1 hc.2 seen
      obtain ⟨seen'', e'⟩ := ih (s + 1) seen'
      exact ⟨seen'', by rw [e]; exact e'⟩

noncomputable def Failing (m : Sre.M) : Prop := m.answer = some false ∧ m.frames = [] ∧ m.outcome = none
theorem attempt_fails (m : Sre.M) (hf : m.hasFirstSet = true) (H : ∀ c, 32 ≤ c → c < 127 → ∀ seen, ∃ seen', Sre.inSet m.code c m.code.size 5 true seen = .ok (false, seen'))
    (hl : m.lim = m.text.size) (ht : ∀ c ∈ m.text, 32 ≤ c ∧ c < 127) (h1 : m.frames = []) (h2 : m.outcome = none) (s : Nat) (b : Bool) : Failing (m.attemptFrom s b) := by
  unfold Sre.M.attemptFrom
  rw [hf]
  simp only [Bool.not_true, Bool.false_eq_true, if_false]
  obtain ⟨seen', e⟩ := none_admitted m H hl ht (m.lim + 1 - s) s m.seen
  rw [e]
  exact ⟨rfl, h1, h2⟩
theorem search_fails {code : Array Nat} (hc : code = codeN ∨ code = codeV) {text : Array Nat} (ht : ∀ c ∈ text, 32 ≤ c ∧ c < 127) : Failing (Sre.forSearch code text 0 0 text.size false) := by
  have H : ∀ c, 32 ≤ c → c < 127 → ∀ seen, ∃ seen', Sre.inSet code c code.size 5 true seen = .ok (false, seen') := by
    rcases hc with rfl | rfl
    · exact fun c a b s => setN a b s
    · exact fun c a b s => setV a b s
  have hf : ((match Sre.ops[code.getD 0 0]? with | some .INFO => true | _ => false) && code.getD 2 0 == 4) = true := by rcases hc with rfl | rfl <;> rfl
  unfold Sre.forSearch
  dsimp only
  split
  · exact ⟨rfl, rfl, rfl⟩
  · refine attempt_fails _ ?_ ?_ ?_ ?_ ?_ ?_ 0 true
    · unfold Sre.M.hasFirstSet; exact hf
    · exact H
    · rfl
    · exact ht
    · rfl
    · rfl

theorem failing_step {m : Sre.M} (h : Failing m) : (m.runFor 4).outcome = some .failed := by
  obtain ⟨a, b, c⟩ := h
  have e : m.step.outcome = some .failed := by
    unfold Sre.M.step
    rw [c]
    simp only [Option.isSome_none, Bool.false_eq_true, if_false]
    rw [a, b]
    rfl
  unfold Sre.M.runFor
  rw [c]
  simp only [Option.isSome_none, Bool.false_eq_true, if_false]
  unfold Sre.M.runFor
  rw [e]
  simp only [Option.isSome_some, if_true]
  exact e

section
variable {prog : Program} {w : World} {A : Around} {E : Value → Shared → Prop} {s : Shared}
theorem rules_skip (f : Nat → Bool) (g : Nat → String) : ∀ (l : List Nat) (Q : PUnit → Shared → Prop), Q ⟨⟩ s →
    wpAny (model prog w) A (forIn l PUnit.unit fun i (_ : PUnit) => (if f i = true then (do rule (g i); pure (ForInStep.yield PUnit.unit)) else pure (ForInStep.yield PUnit.unit) : Sem (ForInStep PUnit))) Q E s
  | [], Q, h => by rw [List.forIn_nil]; exact wpAny_pure h
  | i :: l, Q, h => by
    rw [List.forIn_cons]
    refine wpAny_bind ?_
    have rest := rules_skip f g l Q h
    split
    · exact wpAny_bind (wpAny_rule (wpAny_pure rest))
    · exact wpAny_pure rest
theorem run_fails {m : Sre.M} (h : Failing m) {Q : Option Sre.M → Shared → Prop} (hq : Q none s) : wpAny (model prog w) A (Builtin.Re.reRunToEnd m) Q E s := by
  have e := failing_step h
  unfold Builtin.Re.reRunToEnd
  refine wpAny_bind (m := Builtin.Re.reDrive (2 ^ 64) m) ?_
  have : Builtin.Re.reDrive (2 ^ 64) m = pure (m.runFor 4) := by
    show (if (m.runFor 4).outcome.isSome = true then _ else _) = _
    rw [e]; rfl
  rw [this]
  refine wpAny_pure ?_
  refine wpAny_bind (rules_skip _ _ _ _ ?_)
  rw [e]
  exact wpAny_pure hq

/-- a pattern object and its code -/
structure PatAt (h : Heap) (P : Addr) (code : Array Nat) : Prop where
  obj : ∃ o vs c oc items n, h.get? P = some o ∧ o.cls = .type "re.Pattern" ∧ o.dict = none ∧ o.data = .fields vs ∧ vs.getD 6 .none = .int 0 0 ∧ vs.getD 2 .none = .int 0 0 ∧ vs.getD 5 .none = .ref c ∧
    h.get? c = some oc ∧ oc.data = .seq items n ∧ (items.map Builtin.Re.reRawOf).map (·.toNat) = code

theorem method_search {P : Addr} {code : Array Nat} {pl : Sem Bool} {Q : Value × List Value → Shared → Prop} (hP : PatAt s.heap P code) (hq : Q (.builtin "re.Pattern.search", [.ref P]) s) :
    wpAny (model prog w) A (getMethod (.ref P) "search" pl) Q E s := by
  obtain ⟨o, vs, c, oc, items, n, h1, h2, h3, h4, h5, h6, h7, h8, h9, h10⟩ := hP.obj
  exact getMethod_builtin ⟨o, h1, h2⟩ attrs_pat slot_search type_search (fun a e => by cases e; exact ⟨o, h1, h3⟩) hq

theorem call_search {P : Addr} {code : Array Nat} {x : Str} {t : Tok} {Q : Value → Shared → Prop} (hP : PatAt s.heap P code) (hc : code = codeN ∨ code = codeV) (hx : Plain x) (hsz : x.length ≤ sizeLine) (hq : Q .none s) :
    wpAny (model prog w) A (call (.builtin "re.Pattern.search") [.ref P, .str x t]) Q E s := by
  obtain ⟨o, vs, c, oc, items, n, h1, h2, h3, h4, h5, h6, h7, h8, h9, h10⟩ := hP.obj
  refine wpAny_call (codeAny_call_builtin slot_search.plain entry_search (slot_search.check _ _ _ _ (.ref P) [.str x t] [] _ ⟨o, h1, h2⟩ (args_search _ _) ?_))
  unfold Builtin.«re.Pattern.search»
  have tgt : ∀ {A' : Around} {E' : Value → Shared → Prop} {Q' : Builtin.Re.ReTarget → Shared → Prop}, Q' { pattern := .ref P, string := .str x t, code, text := x.cps, kind := 0, groups := 0, pos := 0, lim := x.cps.size } s →
      wpAny (model prog w) A' (Builtin.Re.reTarget "re.Pattern.search" "search" ⟨[.ref P, .str x t], []⟩) Q' E' s := by
    intro A' E' Q' hq'
    have e : Builtin.Re.reNamed "re.Pattern.search" "search" ["string", "pos", "endpos"] 1 [.str x t] [] = pure [some (.str x t), none, none] := by rfl
    unfold Builtin.Re.reTarget
    dsimp only
    rw [e]
    refine wpAny_bind (wpAny_pure ?_)
    dsimp only
    refine wpAny_bind (wpAny_pure ?_)
    refine wpAny_bind (wpAny_pure ?_)
    refine wpAny_bind (wpAny_fieldsOf h1 h4 ?_)
    have et : Builtin.Re.reTextOf (.str x t) = pure (x.cps, 0) := by rfl
    have w0 : Builtin.Re.reRawNat (vs.getD 6 .none) = 0 := by rw [h5]; rfl
    have g0 : Builtin.Re.reRawNat (vs.getD 2 .none) = 0 := by rw [h6]; rfl
    rw [et]
    refine wpAny_bind (wpAny_pure ?_)
    dsimp only
    rw [w0, g0, h7]
    refine wpAny_bind (m := Builtin.Re.reRawItems (.ref c)) ?_
    unfold Builtin.Re.reRawItems
    refine wpAny_bind (wpAny_seqItems h8 h9 ?_)
    refine wpAny_pure ?_
    refine wpAny_pure ?_
    have hm : min 9223372036854775807 x.cps.size = x.cps.size := by
      have : x.cps.size ≤ 16777216 := hsz
      omega
    rw [show min (Int.toNat 0) x.cps.size = 0 from by simp]
    show Q' { pattern := .ref P, string := .str x t, code := Array.map (fun x => x.toNat) (Array.map Builtin.Re.reRawOf items), text := x.cps, kind := 0, groups := 0, pos := 0, lim := min 9223372036854775807 x.cps.size } s
    rw [hm]
    rw [← h10] at hq'
    exact hq'
  refine wpAny_bind (tgt ?_)
  unfold Builtin.Re.reAnswer
  refine wpAny_bind (run_fails (search_fails hc hx) ?_)
  exact wpAny_pure hq
end

-- NEEDS:
abbrev Ledger := List (Addr × Obj)
abbrev tupO (its : Array Value) (n : Nat) : Obj := { cls := .type "tuple", data := .seq its n }

/-- the pairs of a Headers, each a tuple of the ledger -/
inductive Pairs (news : Ledger) : List Addr → List (Str × Str) → Prop
  | nil : Pairs news [] []
  | cons {a : Addr} {as : List Addr} {kv : Str × Str} {kvs : List (Str × Str)} (t₁ t₂ : Tok) (n : Nat) (h : (a, tupO #[.str kv.1 t₁, .str kv.2 t₂] n) ∈ news) (r : Pairs news as kvs) : Pairs news (a :: as) (kv :: kvs)
theorem Pairs.mono {news news' : Ledger} (hs : ∀ p ∈ news, p.2.cls = .type "tuple" → p ∈ news') {as : List Addr} {kvs : List (Str × Str)} (h : Pairs news as kvs) : Pairs news' as kvs := by
  induction h with
  | nil => exact .nil
  | cons t₁ t₂ n h _ ih => exact .cons t₁ t₂ n (hs _ h rfl) ih
theorem Pairs.length {news : Ledger} {as : List Addr} {kvs : List (Str × Str)} (h : Pairs news as kvs) : as.length = kvs.length := by
  induction h with
  | nil => rfl
  | cons _ _ _ _ _ ih => simp [ih]
theorem Pairs.get {news : Ledger} {as : List Addr} {kvs : List (Str × Str)} (h : Pairs news as kvs) : ∀ (i : Nat) (a : Addr), as[i]? = some a → ∃ kv t₁ t₂ n, kvs[i]? = some kv ∧ (a, tupO #[.str kv.1 t₁, .str kv.2 t₂] n) ∈ news := by
  induction h with
  | nil => intro i a e; simp at e
  | cons t₁ t₂ n h _ ih =>
    intro i a e
    cases i with
    | zero =>
      obtain rfl := Option.some.inj e
      exact ⟨_, t₁, t₂, n, rfl, h⟩
    | succ i => exact ih i a (by simpa using e)
theorem ref_get {as : List Addr} {i : Nat} {v : Value} (h : (as.map Value.ref).toArray[i]? = some v) : ∃ a, as[i]? = some a ∧ v = .ref a := by
  simp only [List.getElem?_toArray, List.getElem?_map, Option.map_eq_some_iff] at h
  obtain ⟨a, h1, h2⟩ := h
  exact ⟨a, h1, h2.symm⟩
theorem Pairs.append {news : Ledger} {as bs : List Addr} {kvs kws : List (Str × Str)} (h : Pairs news as kvs) (h' : Pairs news bs kws) : Pairs news (as ++ bs) (kvs ++ kws) := by
  induction h with
  | nil => exact h'
  | cons t₁ t₂ n h _ ih => exact .cons t₁ t₂ n h ih

/-- a Headers: the object, its dict, its list -/
structure Hdr (P : Params) (news : Ledger) (x dx l : Addr) (as : List Addr) (n : Nat) (kvs : List (Str × Str)) : Prop where
  inst : (x, instObj 182 dx) ∈ news
  dict : ∃ tk, (dx, dictOf [⟨PyData.keyHash P (Str.ofString "_headers"), .str (Str.ofString "_headers") tk, .ref l⟩] 1) ∈ news
  list : (l, listOf (as.map Value.ref).toArray n) ∈ news
  pairs : Pairs news as kvs

section
variable {prog : Program} {w : World} {A : Around} {E : Value → Shared → Prop} {s : Shared} {env : Env} {h₀ : Heap} {target : Expr} {body : List Stmt} {Q : Flow → Shared → Prop} {ws : List (Addr × String)} {keep : Ledger}
theorem items_ind (P : List Itm → (Str → Option Value) → Ledger → Prop)
    (h0 : ∀ m news, P [] m news → ItemsRest prog w A E h₀ env target body Q s ws keep [] m news)
    (hs : ∀ a r m news, P (a :: r) m news → (∀ m' n', P r m' n' → ItemsRest prog w A E h₀ env target body Q s ws keep r m' n') → ItemsRest prog w A E h₀ env target body Q s ws keep (a :: r) m news) :
    ∀ xs m news, P xs m news → ItemsRest prog w A E h₀ env target body Q s ws keep xs m news
  | [], m, news, h => h0 m news h
  | a :: r, m, news, h => hs a r m news h fun m' n' h' => items_ind P h0 hs r m' n' h'

theorem unr_end1 {L : Addr} {I : Addr} {it : Obj} {rest : (Str → Option Value) → Ledger → Prop} {s₁ : Shared} {h' : Heap} {tk : Nat} {m' : Str → Option Value} {news : Ledger}
    (F : Fr h₀ L h' m') (N : News h₀ L h' ((I, it) :: news)) (off : ∀ p ∈ news, p.1 ≠ I) (r : rest m' news) : UnrEndW h₀ L s₁ [(I, it)] rest { s₁ with heap := h', toks := tk } :=
  ⟨h', tk, m', news, rfl, F, N, fun p hp q hq => by rw [List.mem_singleton.mp hq]; exact off p hp, r⟩
end

/-- the ledger with the object at l turned -/
noncomputable def putAt (l : Addr) (o' : Obj) (news : Ledger) : Ledger := news.map fun p => if p.1 = l then (p.1, o') else p
theorem mem_putAt_ne {l : Addr} {o' : Obj} {news : Ledger} {p : Addr × Obj} (h : p ∈ news) (hn : p.1 ≠ l) : p ∈ putAt l o' news := List.mem_map.mpr ⟨p, h, if_neg hn⟩
theorem mem_putAt_self {l : Addr} {o o' : Obj} {news : Ledger} (h : (l, o) ∈ news) : (l, o') ∈ putAt l o' news := List.mem_map.mpr ⟨(l, o), h, if_pos rfl⟩
theorem of_mem_putAt {l : Addr} {o' : Obj} {news : Ledger} {p : Addr × Obj} (h : p ∈ putAt l o' news) : (p.1 = l ∧ p.2 = o' ∧ ∃ o, (l, o) ∈ news) ∨ (p.1 ≠ l ∧ p ∈ news) := by
  obtain ⟨q, hq, e⟩ := List.mem_map.mp h
  by_cases hl : q.1 = l
  · rw [if_pos hl] at e; subst e; exact .inl ⟨hl, rfl, q.2, by rw [← hl]; exact hq⟩
  · rw [if_neg hl] at e; subst e; exact .inr ⟨hl, hq⟩
theorem news_putAt {h₀ h h' : Heap} {L l : Addr} {o o' : Obj} {news : Ledger} (N : News h₀ L h news) (hm : (l, o) ∈ news) (hs : Heap.SameBut l h h') (ho : h'.get? l = some o') : News h₀ L h' (putAt l o' news) := by
  intro p hp
  rcases of_mem_putAt hp with ⟨h1, h2, _⟩ | ⟨h1, h2⟩
  · have z := N _ hm
    rw [h1, h2]
    exact ⟨ho, z.2⟩
  · have z := N _ h2
    exact ⟨(hs.2 p.1 h1).trans z.1, z.2⟩
theorem ne_of_objs {h₀ h : Heap} {L : Addr} {news : Ledger} (N : News h₀ L h news) {a b : Addr} {o o' : Obj} (h1 : (a, o) ∈ news) (h2 : (b, o') ∈ news) (hn : o.cls ≠ o'.cls) : a ≠ b := by
  intro e
  subst e
  have z1 := (N _ h1).1
  have z2 := (N _ h2).1
  exact hn (congrArg Obj.cls (Option.some.inj (z1.symm.trans z2)))

-- NEEDS: p02_ledger
section
variable {prog : Program} {w : World} {A : Around} {E : Value → Shared → Prop} {s : Shared} {env : Env} {h₀ : Heap} {target : Expr} {body : List Stmt} {Q : Flow → Shared → Prop}
theorem letGo_rangeiter {I : Addr} {x left c : Int} {v : Value} {Q' : Unit → Shared → Prop} {s' : Shared} (hit : IsRangeIter s'.heap I x left c) (h : Q' () s') :
    wpAny (model prog w) A (letOwnedTupleGo target (.ref I) v) Q' E s' := by
  unfold letOwnedTupleGo
  cases target <;> first
    | exact wpAny_pure h
    | (cases v <;> first
        | exact wpAny_pure h
        | (refine wpAny_bind (wpAny_load hit ?_)
           exact wpAny_pure h))

noncomputable def rangeItems (c : Int) : Nat → Int → List Itm
  | 0, _ => []
  | n + 1, a => .tok (fun t => .int a t) :: rangeItems c n (a + c)
theorem rangeItems_length (c : Int) : ∀ n a, (rangeItems c n a).length = n
  | 0, _ => rfl
  | n + 1, a => congrArg (· + 1) (rangeItems_length c n (a + c))
theorem rangeItems_get (c : Int) : ∀ (n : Nat) (a : Int) (i : Nat), i < n → (rangeItems c n a)[i]? = some (.tok (fun t => .int (a + i * c) t))
  | 0, _, _, h => absurd h (Nat.not_lt_zero _)
  | n + 1, a, 0, _ => by simp [rangeItems]
  | n + 1, a, i + 1, h => by
    have q := rangeItems_get c n (a + c) i (by omega)
    have e : a + c + (i : Int) * c = a + ((i + 1 : Nat) : Int) * c := by
      rw [show ((i + 1 : Nat) : Int) = (i : Int) + 1 from rfl, Int.add_mul]; omega
    rw [e] at q
    simpa [rangeItems] using q

theorem iter_rangeTurns {r : Addr} {a b c : Int} {t u v : Tok} {n : Nat} {m₀ : Str → Option Value} {news : Ledger}
    (hh : A.handled = none) (hr : IsRange s.heap r a b c t u v) (hsmall : Builtin.Range.small a b c = true) (hn : Builtin.Range.rangeSize a b c = (n : Int)) (F : Fr h₀ env.locals s.heap m₀) (N : News h₀ env.locals s.heap news)
    (rest₀ : ∀ I : Addr, (∀ p ∈ news, p.1 < I) → ItemsRest prog w A E h₀ env target body Q s [(I, "range_iterator")] [] (rangeItems c n a) m₀ news) :
    wpAny (model prog w) A (pyIter (.ref r)) (fun it s₂ => TurnsAt prog w A h₀ env target body Q E it s₂) E s := by
  refine wpAny_pyIter_range hr hsmall ?_
  have W : Walks prog w A s.heap.objs.size [s.heap.objs.size] [s.heap.objs.size] n (fun i v => i < n ∧ ∃ t, v = .int (a + i * c) t)
      (fun i h => IsRangeIter h s.heap.objs.size (a + (i : Nat) * c) ((n : Int) - (i : Nat)) c) := (Walks.range hh _ a c n).bound
  refine ktu_core (tk0 := s.toks) (keep := []) (KTurns.ofWalks W fun i v s Q E st q => letGo_rangeiter st q) (rangeItems_length c n a).symm (fun i v h hp => ?_) (fun i h st => ?_) (fun b hb => ?_) (fun b hb => by simpa using hb) (fun b hb => ?_) ?_ (fun p hp hI => ?_) ?_ (F.push _) (fun p hp => ⟨Heap.get?_push_of_some _ (N p hp).1, (N p hp).2⟩) trivial (rest₀ _ fun p hp => Heap.lt_size (N p hp).1)
  · obtain ⟨hi, t, e⟩ := hp
    exact ⟨_, rangeItems_get c n a i hi, t, e⟩
  · exact ⟨[(s.heap.objs.size, _)], ⟨⟨rfl, rfl⟩, trivial⟩, fun p hp => by rw [List.mem_singleton.mp hp]; exact st⟩
  · have hb' : b = s.heap.objs.size := by simpa using hb
    rw [hb']
    exact ⟨List.mem_cons_self .., next_is_new F⟩
  · exact .inl (by simpa using hb)
  · intro hI
    exact absurd F.ns.lt ((List.mem_singleton.mp hI) ▸ Nat.lt_irrefl _)
  · exact absurd (Heap.lt_size (N p hp).1) ((List.mem_singleton.mp hI) ▸ Nat.lt_irrefl _)
  · have e : a + ((0 : Nat) : Int) * c = a := by simp
    have e2 : (n : Int) - ((0 : Nat) : Int) = n := by simp
    rw [e, e2, ← hn]
    exact Heap.get?_push_size _ rfl
end

-- NEEDS: p02_ledger p02b_loops
/-- a goal that the walk leaves to us -/
noncomputable def Hold (P : Prop) : Prop := P
theorem Hold.out {P : Prop} (h : Hold P) : P := h
theorem comp_start {P : Prop} (h : P) : Hold P := h
section
variable {prog : Program} {w : World} {A : Around} {s : Shared} {h₀ : Heap} {L : Addr} {m : Str → Option Value} {env : Env} {ct elt : Expr} {x x₂ : Str} {scope : Scope} {cl : List (Str × Addr)} {S : Ledger → Prop} {P : Nat → Value → Prop} {Fin : List Value → Ledger → Prop}
theorem comp_ind (J : Nat → List Value → Ledger → Prop) (n : Nat)
    (hs : ∀ i v ys news I oI C oC D m₂ h tk (E' : Value → Shared → Prop), i < n → J i ys news → P i v → LCg.NsObj oC m₂ → m₂ x = some v → Fr h₀ L h m → News h₀ L h ((I, oI) :: (C, oC) :: (D, LCg.lst ys) :: news) → LCg.Off3 I C D news → ((@Ne Nat I C) ∧ (@Ne Nat I D) ∧ (@Ne Nat C D)) →
      wpAny (model prog w) A (eval elt (compEnvC scope cl C env)) (LCg.CompEnd h₀ L m { s with heap := h, toks := tk } I oI C oC D (LCg.lst ys) S (fun y news' => J (i + 1) (ys ++ [y]) news')) E' { s with heap := h, toks := tk })
    (hf : ∀ ys news, J n ys news → Fin ys news) (j : Nat) : ∀ (i : Nat) (ys : List Value) (news : Ledger), i + j = n → J i ys news → LCg.CompRest prog w A h₀ L m env elt x scope cl s S P Fin j i ys news := by
  induction j with
  | zero =>
    intro i ys news hi hJ
    obtain rfl : i = n := by omega
    exact LCg.CompRest.zero (hf ys news hJ)
  | succ j ih =>
    intro i ys news hi hJ
    refine LCg.CompRest.succ ?_
    intro v I oI C oC D m₂ h tk E' hv hC hx F N off ne
    refine wpAny_mono (hs i v ys news I oI C oC D m₂ h tk E' (by omega) hJ hv hC hx F N off ne) (fun y s₂ hq => ?_) fun _ _ e => e
    obtain ⟨h', tk', nw, e, F', N', off', hS, hJ'⟩ := hq
    exact ⟨h', tk', nw, e, F', N', off', hS, ih (i + 1) _ _ (by omega) hJ'⟩

theorem compT_ind (J : Nat → List Value → Ledger → Prop) (n : Nat)
    (hs : ∀ i v ys news I oI C oC D m₂ h tk (E' : Value → Shared → Prop), i < n → J i ys news → P i v → LCg.NsObj oC m₂ → m₂ x = some v → Fr h₀ L h m → News h₀ L h ((I, oI) :: (C, oC) :: (D, LCg.lst ys) :: news) → LCg.Off3 I C D news → ((@Ne Nat I C) ∧ (@Ne Nat I D) ∧ (@Ne Nat C D)) →
      wpAny (model prog w) A (isTrue ct (compEnvC scope cl C env) (eval ct (compEnvC scope cl C env))) (fun ok s' => if ok = true then
        wpAny (model prog w) A (eval elt (compEnvC scope cl C env)) (LCg.CompEnd h₀ L m { s with heap := h, toks := tk } I oI C oC D (LCg.lst ys) S (fun y news' => J (i + 1) (ys ++ [y]) news')) E' s'
        else LCg.CompEnd h₀ L m { s with heap := h, toks := tk } I oI C oC D (LCg.lst ys) S (fun _ news' => J (i + 1) ys news') Value.none s') E' { s with heap := h, toks := tk })
    (hf : ∀ ys news, J n ys news → Fin ys news) (j : Nat) : ∀ (i : Nat) (ys : List Value) (news : Ledger), i + j = n → J i ys news → LCt.CompRestT prog w A h₀ L m env ct elt x scope cl s S P Fin j i ys news := by
  induction j with
  | zero =>
    intro i ys news hi hJ
    obtain rfl : i = n := by omega
    exact LCt.CompRestT.zero (hf ys news hJ)
  | succ j ih =>
    intro i ys news hi hJ
    refine LCt.CompRestT.succ ?_
    intro v I oI C oC D m₂ h tk E' hv hC hx F N off ne
    refine wpAny_mono (hs i v ys news I oI C oC D m₂ h tk E' (by omega) hJ hv hC hx F N off ne) (fun b s₂ hq => ?_) fun _ _ e => e
    cases b with
    | true =>
      simp only [if_true] at hq ⊢
      refine wpAny_mono hq (fun y s₃ hr => ?_) fun _ _ e => e
      obtain ⟨h', tk', nw, e, F', N', off', hS, hJ'⟩ := hr
      exact ⟨h', tk', nw, e, F', N', off', hS, ih (i + 1) _ _ (by omega) hJ'⟩
    | false =>
      simp only [Bool.false_eq_true, if_false] at hq ⊢
      obtain ⟨h', tk', nw, e, F', N', off', hS, hJ'⟩ := hq
      exact ⟨h', tk', nw, e, F', N', off', hS, ih (i + 1) _ _ (by omega) hJ'⟩

theorem compP_ind (J : Nat → List Value → Ledger → Prop) (n : Nat)
    (hs : ∀ i v ys news, i < n → J i ys news → P i v → ∃ (t : Addr) (ot : Obj) (v₁ v₂ : Value) (nt : Nat), v = .ref t ∧ (t, ot) ∈ news ∧ ot.cls = .type "tuple" ∧ ot.data = .seq #[v₁, v₂] nt ∧
      ∀ I oI C oC D m₂ h tk (E' : Value → Shared → Prop), LCg.NsObj oC m₂ → m₂ x = some v₁ → m₂ x₂ = some v₂ → Fr h₀ L h m → News h₀ L h ((I, oI) :: (C, oC) :: (D, LCg.lst ys) :: news) → LCg.Off3 I C D news → ((@Ne Nat I C) ∧ (@Ne Nat I D) ∧ (@Ne Nat C D)) →
      wpAny (model prog w) A (eval elt (compEnvC scope cl C env)) (LCg.CompEnd h₀ L m { s with heap := h, toks := tk } I oI C oC D (LCg.lst ys) S (fun y news' => J (i + 1) (ys ++ [y]) news')) E' { s with heap := h, toks := tk })
    (hf : ∀ ys news, J n ys news → Fin ys news) (j : Nat) : ∀ (i : Nat) (ys : List Value) (news : Ledger), i + j = n → J i ys news → LCp.CompRestP prog w A h₀ L m env elt x x₂ scope cl s S P Fin j i ys news := by
  induction j with
  | zero =>
    intro i ys news hi hJ
    obtain rfl : i = n := by omega
    exact LCp.CompRestP.zero (hf ys news hJ)
  | succ j ih =>
    intro i ys news hi hJ
    refine LCp.CompRestP.succ ?_
    intro v hv
    obtain ⟨t, ot, v₁, v₂, nt, e1, e2, e3, e4, hturn⟩ := hs i v ys news (by omega) hJ hv
    refine ⟨t, ot, v₁, v₂, nt, e1, e2, e3, e4, ?_⟩
    intro I oI C oC D m₂ h tk E' hC hx hx₂ F N off ne
    refine wpAny_mono (hturn I oI C oC D m₂ h tk E' hC hx hx₂ F N off ne) (fun y s₂ hq => ?_) fun _ _ e => e
    obtain ⟨h', tk', nw, e, F', N', off', hS, hJ'⟩ := hq
    exact ⟨h', tk', nw, e, F', N', off', hS, ih (i + 1) _ _ (by omega) hJ'⟩
theorem comp_same {news : Ledger} {n : Nat} (J : Nat → List Value → Prop)
    (hs : ∀ i v ys I oI C oC D m₂ h tk (E' : Value → Shared → Prop), i < n → J i ys → P i v → LCg.NsObj oC m₂ → m₂ x = some v → Fr h₀ L h m → News h₀ L h ((I, oI) :: (C, oC) :: (D, LCg.lst ys) :: news) → LCg.Off3 I C D news → ((@Ne Nat I C) ∧ (@Ne Nat I D) ∧ (@Ne Nat C D)) →
      wpAny (model prog w) A (eval elt (compEnvC scope cl C env)) (LCg.CompEnd h₀ L m { s with heap := h, toks := tk } I oI C oC D (LCg.lst ys) S (fun y news' => news' = news ∧ J (i + 1) (ys ++ [y]))) E' { s with heap := h, toks := tk })
    (h0 : J 0 []) (hf : ∀ ys, J n ys → Fin ys news) : Hold (LCg.CompRest prog w A h₀ L m env elt x scope cl s S P Fin n 0 [] news) :=
  comp_ind (fun i ys n' => n' = news ∧ J i ys) n (fun i v ys n' I oI C oC D m₂ h tk E' hi hJ hv hC hx F N off ne => by obtain ⟨rfl, hJ⟩ := hJ; exact hs i v ys I oI C oC D m₂ h tk E' hi hJ hv hC hx F N off ne)
    (fun ys n' hJ => by obtain ⟨rfl, hJ⟩ := hJ; exact hf ys hJ) n 0 [] news (Nat.zero_add n) ⟨rfl, h0⟩
theorem comp_grow {news : Ledger} {n : Nat} (J : Nat → List Value → Ledger → Prop)
    (hs : ∀ i v ys n' I oI C oC D m₂ h tk (E' : Value → Shared → Prop), i < n → (∀ p ∈ news, p ∈ n') → J i ys n' → P i v → LCg.NsObj oC m₂ → m₂ x = some v → Fr h₀ L h m → News h₀ L h ((I, oI) :: (C, oC) :: (D, LCg.lst ys) :: n') → LCg.Off3 I C D n' → ((@Ne Nat I C) ∧ (@Ne Nat I D) ∧ (@Ne Nat C D)) →
      wpAny (model prog w) A (eval elt (compEnvC scope cl C env)) (LCg.CompEnd h₀ L m { s with heap := h, toks := tk } I oI C oC D (LCg.lst ys) S (fun y n'' => (∀ p ∈ news, p ∈ n'') ∧ J (i + 1) (ys ++ [y]) n'')) E' { s with heap := h, toks := tk })
    (h0 : J 0 [] news) (hf : ∀ ys n', (∀ p ∈ news, p ∈ n') → J n ys n' → Fin ys n') : Hold (LCg.CompRest prog w A h₀ L m env elt x scope cl s S P Fin n 0 [] news) :=
  comp_ind (fun i ys n' => (∀ p ∈ news, p ∈ n') ∧ J i ys n') n (fun i v ys n' I oI C oC D m₂ h tk E' hi hJ hv hC hx F N off ne => hs i v ys n' I oI C oC D m₂ h tk E' hi hJ.1 hJ.2 hv hC hx F N off ne)
    (fun ys n' hJ => hf ys n' hJ.1 hJ.2) n 0 [] news (Nat.zero_add n) ⟨fun _ h => h, h0⟩
theorem compT_same {news : Ledger} {n : Nat} (J : Nat → List Value → Prop)
    (hs : ∀ i v ys I oI C oC D m₂ h tk (E' : Value → Shared → Prop), i < n → J i ys → P i v → LCg.NsObj oC m₂ → m₂ x = some v → Fr h₀ L h m → News h₀ L h ((I, oI) :: (C, oC) :: (D, LCg.lst ys) :: news) → LCg.Off3 I C D news → ((@Ne Nat I C) ∧ (@Ne Nat I D) ∧ (@Ne Nat C D)) →
      wpAny (model prog w) A (isTrue ct (compEnvC scope cl C env) (eval ct (compEnvC scope cl C env))) (fun ok s' => if ok = true then
        wpAny (model prog w) A (eval elt (compEnvC scope cl C env)) (LCg.CompEnd h₀ L m { s with heap := h, toks := tk } I oI C oC D (LCg.lst ys) S (fun y news' => news' = news ∧ J (i + 1) (ys ++ [y]))) E' s'
        else LCg.CompEnd h₀ L m { s with heap := h, toks := tk } I oI C oC D (LCg.lst ys) S (fun _ news' => news' = news ∧ J (i + 1) ys) Value.none s') E' { s with heap := h, toks := tk })
    (h0 : J 0 []) (hf : ∀ ys, J n ys → Fin ys news) : Hold (LCt.CompRestT prog w A h₀ L m env ct elt x scope cl s S P Fin n 0 [] news) :=
  compT_ind (fun i ys n' => n' = news ∧ J i ys) n (fun i v ys n' I oI C oC D m₂ h tk E' hi hJ hv hC hx F N off ne => by obtain ⟨rfl, hJ⟩ := hJ; exact hs i v ys I oI C oC D m₂ h tk E' hi hJ hv hC hx F N off ne)
    (fun ys n' hJ => by obtain ⟨rfl, hJ⟩ := hJ; exact hf ys hJ) n 0 [] news (Nat.zero_add n) ⟨rfl, h0⟩
theorem compP_same {news : Ledger} {n : Nat} (J : Nat → List Value → Prop)
    (hs : ∀ i v ys, i < n → J i ys → P i v → ∃ (t : Addr) (ot : Obj) (v₁ v₂ : Value) (nt : Nat), v = .ref t ∧ (t, ot) ∈ news ∧ ot.cls = .type "tuple" ∧ ot.data = .seq #[v₁, v₂] nt ∧
      ∀ I oI C oC D m₂ h tk (E' : Value → Shared → Prop), LCg.NsObj oC m₂ → m₂ x = some v₁ → m₂ x₂ = some v₂ → Fr h₀ L h m → News h₀ L h ((I, oI) :: (C, oC) :: (D, LCg.lst ys) :: news) → LCg.Off3 I C D news → ((@Ne Nat I C) ∧ (@Ne Nat I D) ∧ (@Ne Nat C D)) →
      wpAny (model prog w) A (eval elt (compEnvC scope cl C env)) (LCg.CompEnd h₀ L m { s with heap := h, toks := tk } I oI C oC D (LCg.lst ys) S (fun y news' => news' = news ∧ J (i + 1) (ys ++ [y]))) E' { s with heap := h, toks := tk })
    (h0 : J 0 []) (hf : ∀ ys, J n ys → Fin ys news) : Hold (LCp.CompRestP prog w A h₀ L m env elt x x₂ scope cl s S P Fin n 0 [] news) :=
  compP_ind (fun i ys n' => n' = news ∧ J i ys) n (fun i v ys n' hi hJ hv => by obtain ⟨rfl, hJ⟩ := hJ; exact hs i v ys hi hJ hv)
    (fun ys n' hJ => by obtain ⟨rfl, hJ⟩ := hJ; exact hf ys hJ) n 0 [] news (Nat.zero_add n) ⟨rfl, h0⟩
theorem comp_end {s₁ : Shared} {I C D : Addr} {oI oC oD : Obj} {rest : Value → Ledger → Prop} {y : Value} {h' : Heap} {tk : Nat} {news : Ledger}
    (F : Fr h₀ L h' m) (N : News h₀ L h' ((I, oI) :: (C, oC) :: (D, oD) :: news)) (off : LCg.Off3 I C D news) (hS : S news) (r : rest y news) : LCg.CompEnd h₀ L m s₁ I oI C oC D oD S rest y { s₁ with heap := h', toks := tk } := ⟨h', tk, news, rfl, F, N, off, hS, r⟩
end
theorem off1_mem {D : Addr} : ∀ {l : Ledger}, LCg.Off1 D l → ∀ p ∈ l, p.1 ≠ D
  | [], _, _, h => nomatch h
  | _ :: _, x, p, h => by
    rcases List.mem_cons.mp h with rfl | h
    · exact x.1
    · exact off1_mem x.2 p h
-- MACROS
local macro_rules | `(tactic| walk_at "CompSrc") => `(tactic| (k_here; k_dflt (first
  | (refine LCg.CompSrc.ledger (by rfl) (by k_asm) (by k_asm) (by k_mem) (by first | assumption | size_fits | exact Nat.le_of_ble_eq_true rfl) ?_)
  | (refine LCg.CompSrc.range (by rfl) (by k_asm) (by k_asm) (by assumption) (by first | assumption | decide | rfl) (by first | assumption | rfl | decide) (by first | assumption | size_fits | exact Nat.le_of_ble_eq_true rfl) ?_)); intro g'; refine Hold.out ?_))
local macro_rules | `(tactic| walk_at "CompSrcT") => `(tactic| (k_here; k_dflt (first
  | (refine LCt.CompSrcT.ledger (by rfl) (by k_asm) (by k_asm) (by k_mem) (by first | assumption | size_fits | exact Nat.le_of_ble_eq_true rfl) ?_)
  | (refine LCt.CompSrcT.range (by rfl) (by k_asm) (by k_asm) (by assumption) (by first | assumption | decide | rfl) (by first | assumption | rfl | decide) (by first | assumption | size_fits | exact Nat.le_of_ble_eq_true rfl) ?_)); intro g'; refine Hold.out ?_))
local macro_rules | `(tactic| walk_at "SrcLP") => `(tactic| (k_here; k_dflt (refine LCp.SrcLP.ledger (by rfl) (by k_asm) (by k_asm) (by k_mem) (by first | assumption | size_fits | exact Nat.le_of_ble_eq_true rfl) ?_); intro g'; refine Hold.out ?_))
local macro_rules | `(tactic| walk_at "eval ListComp") => `(tactic| (k_here; first
  | (lct_look; k_dflt (refine LCt.ListComp_T (F₀ := by k_asm) (by with_unfolding_all rfl) (by decide) (by rfl) (by decide) (by rfl) ?_))
  | (lcp_look; k_dflt (refine LCp.ListComp_P (F₀ := by k_asm) (by with_unfolding_all rfl) (by decide) (by rfl) (by decide) (by rfl) (by rfl) (by decide) ?_))
  | ((first | lcg_look | lcf_look); (fail_if_success lcp_look); k_dflt (refine LCg.ListComp_U (F₀ := by k_asm) (by with_unfolding_all rfl) (by decide) (by rfl) (by decide) (by rfl) ?_))))
-- END MACROS

-- NEEDS: p02_ledger
/-- what stands when a name is deleted -/
noncomputable def delOf (kvs : List (Str × Str)) (q : Str) : List (Str × Str) := kvs.filter fun kv => Txt.lower kv.1 != q
section
variable {prog : Program} {w : World} {A : Around} {E : Value → Shared → Prop} {s : Shared}
theorem setItem_all {l sl D : Addr} {items new : Array Value} {n nD : Nat} {Q : Unit → Shared → Prop} (hl : s.heap.get? l = some (listOf items n)) (hD : s.heap.get? D = some (listOf new nD)) (hne : l ≠ D) (hs : s.heap.IsSliceOf sl .none .none .none)
    (hsz : items.size + new.size ≤ sizeLine) (hQ : ∀ h' n', h'.get? l = some (listOf new n') → Heap.SameBut l s.heap h' → Q () { s with heap := h' }) :
    wpAny (model prog w) A (setItem (.ref l) (.ref sl) (.ref D)) Q E s := by
  have hL : s.heap.IsList l items := ⟨_, hl, rfl, n, rfl⟩
  have hDL : s.heap.IsList D new := ⟨_, hD, rfl, nD, rfl⟩
  obtain ⟨os, hos, hcs, hds⟩ := id hs
  have hTs : s.TypeIs (.ref sl) "slice" := ⟨os, hos, hcs⟩
  unfold setItem
  try with_reducible refine wpAny_holding ?_
  first | refine wpAny_bind (wpAny_pure ?_) | skip
  refine wpAny_bind (wpAny_sequenceKey hL.typeIs (by decide) ?_)
  refine wpAny_bind (wpAny_callSpecial?_slot (name := Str.ofString "__setitem__") hL.typeIs slot_list_setitem
    (wpAny_call_entry slot_list_setitem hL.typeIs entry_list_setitem ?_ (args_list_setitem _ _ _)))
  show wpAny _ _ (Builtin.List.listSubscript? (.ref sl) >>= _) _ _ s
  refine wpAny_bind ?_
  unfold Builtin.List.listSubscript?
  refine wpAny_bind (wpAny_specialOf hTs slice_no_index ?_)
  simp only [Option.isNone_none, if_true]
  refine wpAny_pure ?_
  show wpAny _ _ (typeOf (.ref sl) >>= _) _ _ s
  refine wpAny_bind (wpAny_typeOf hTs ?_)
  rw [if_neg (by decide)]
  rw [listSliceParts_eq]
  refine wpAny_bind (wpAny_bind (wpAny_field hos hds (x := .none) rfl (wpAny_bind (wpAny_listPart .none ?_))))
  rw [if_neg (by decide)]
  refine wpAny_bind (wpAny_field hos hds (x := .none) rfl (wpAny_bind (wpAny_listPart .none ?_)))
  refine wpAny_bind (wpAny_field hos hds (x := .none) rfl (wpAny_bind (wpAny_listPart .none (wpAny_pure ?_))))
  have hsame : Builtin.List.listSameRef (.ref l) (.ref D) = false := by
    show (l == D) = false
    simpa using hne
  simp only [hsame, Bool.false_eq_true, if_false]
  refine wpAny_bind (m := Builtin.List.listAllItems (.ref D) "must assign iterable to extended slice") ?_
  unfold Builtin.List.listAllItems
  refine wpAny_bind (wpAny_typeOf hDL.typeIs ?_)
  rw [if_pos (by decide)]
  refine listItems_at hD rfl ?_
  refine wpAny_bind (m := Builtin.List.listItems (.ref l)) (listItems_at hl rfl ?_)
  refine wpAny_bind (wpAny_of_eq (sliceIndices_raw none none none items.size (by simp)) ?_)
  have hb : sliceBounds none none none items.size = (0, (items.size : Int), 1) := by rfl
  rw [hb]
  dsimp only
  rw [if_pos (by decide)]
  refine wpAny_bind (wpAny_rule ?_)
  have hlong : Builtin.List.listTooLong (items.size + new.size) = false := by
    unfold Builtin.List.listTooLong
    exact decide_eq_false (Nat.not_lt.mpr hsz)
  simp only [hlong, Bool.false_eq_true, if_false]
  first | refine wpAny_bind (wpAny_pure ?_) | skip
  have hf : items.extract 0 (Int.toNat 0) ++ new ++ items.extract (max (0 : Int) (items.size : Int)).toNat items.size = new := by
    have e : (max (0 : Int) (items.size : Int)).toNat = items.size := by omega
    rw [e]
    simp
  refine wpAny_bind (listUpdate_at hl rfl ?_ (Nat.le_trans (Nat.le_add_right _ _) hsz) ?_)
  · refine wpAny_bind (wpAny_letGo ?_)
    refine wpAny_pure ⟨.none, rfl, wpAny_pure (hQ _ (if (new.size == items.size) = true then n else n + 1) ?_ (Heap.SameBut.update ..))⟩
    have q := IsL.update (h := s.heap) (l := l) (items := items) (n := n) hl (fun xs => xs.extract 0 (Int.toNat 0) ++ new ++ xs.extract (max (0 : Int) (items.size : Int)).toNat xs.size)
    rw [hf] at q
    exact q
  · rw [hf]
    omega
theorem delOf_take_succ {kvs : List (Str × Str)} {q : Str} {i : Nat} {kv : Str × Str} (h : kvs[i]? = some kv) : delOf (kvs.take (i + 1)) q = if Txt.lower kv.1 != q then delOf (kvs.take i) q ++ [kv] else delOf (kvs.take i) q := by
  unfold delOf
  rw [List.take_add_one, h, Option.toList_some, List.filter_append]
  cases e : (Txt.lower kv.1 != q) <;> simp [e]
end
theorem putAt_tail {l : Addr} {o : Obj} {a : Addr × Obj} {r : Ledger} : ∀ p ∈ putAt l o r, p ∈ putAt l o (a :: r) := fun _ hp => .tail _ hp
/-- a Headers whose list is turned -/
theorem Hdr.turn {P : Params} {h₀ h : Heap} {L : Addr} {news : Ledger} {x dx l : Addr} {as as' : List Addr} {n n' : Nat} {kvs kvs' : List (Str × Str)} (N : News h₀ L h news) (H : Hdr P news x dx l as n kvs) (hp : Pairs news as' kvs') :
    Hdr P (putAt l (listOf (as'.map Value.ref).toArray n') news) x dx l as' n' kvs' := by
  obtain ⟨hx, ⟨tk, hdx⟩, hl, _⟩ := H
  refine ⟨mem_putAt_ne hx (ne_of_objs N hx hl (by intro e; cases e)), ⟨tk, mem_putAt_ne hdx (ne_of_objs N hdx hl (by intro e; exact absurd (Value.type.inj e) (by decide)))⟩, mem_putAt_self hl, hp.mono fun p hm hc => mem_putAt_ne hm ?_⟩
  exact ne_of_objs N (a := p.1) (o := p.2) hm hl (by rw [hc]; intro e; exact absurd (Value.type.inj e) (by decide))
theorem Hdr.turn' {P : Params} {news : Ledger} {x dx l : Addr} {as as' : List Addr} {n n' : Nat} {kvs kvs' : List (Str × Str)} (N : ∀ p ∈ news, p.2.cls ≠ .type "list" → p.1 ≠ l) (H : Hdr P news x dx l as n kvs) (hp : Pairs news as' kvs') :
    Hdr P (putAt l (listOf (as'.map Value.ref).toArray n') news) x dx l as' n' kvs' := by
  obtain ⟨hx, ⟨tk, hdx⟩, hl, _⟩ := H
  refine ⟨mem_putAt_ne hx (N _ hx (by intro e; cases e)), ⟨tk, mem_putAt_ne hdx (N _ hdx (by intro e; exact absurd (Value.type.inj e) (by decide)))⟩, mem_putAt_self hl, hp.mono fun p hm hc => mem_putAt_ne hm ?_⟩
  exact N p hm (by rw [hc]; intro e; exact absurd (Value.type.inj e) (by decide))
theorem push_refs (as : List Addr) (a : Addr) : (as.map Value.ref).toArray.push (.ref a) = ((as ++ [a]).map Value.ref).toArray := by simp
/-- a Headers with one pair more -/
theorem Hdr.push {P : Params} {news : Ledger} {x dx l a : Addr} {as : List Addr} {n na n' : Nat} {kvs : List (Str × Str)} {k v : Str} {t₁ t₂ : Tok} (N : ∀ p ∈ news, p.2.cls ≠ .type "list" → p.1 ≠ l) (H : Hdr P news x dx l as n kvs) (hm : (a, tupO #[.str k t₁, .str v t₂] na) ∈ news) :
    Hdr P (putAt l (listOf ((as.map Value.ref).toArray.push (.ref a)) n') news) x dx l (as ++ [a]) n' (kvs ++ [(k, v)]) := by
  rw [push_refs]
  exact Hdr.turn' N H (H.pairs.append (.cons (kv := (k, v)) t₁ t₂ na hm .nil))
theorem Hdr.mono {P : Params} {news news' : Ledger} {x dx l : Addr} {as : List Addr} {n : Nat} {kvs : List (Str × Str)} (H : Hdr P news x dx l as n kvs) (hs : ∀ p ∈ news, p ∈ news') : Hdr P news' x dx l as n kvs :=
  let ⟨hx, ⟨tk, hdx⟩, hl, hp⟩ := H
  ⟨hs _ hx, ⟨tk, hs _ hdx⟩, hs _ hl, hp.mono fun p h _ => hs p h⟩
section
variable {prog : Program} {w : World} {M : Model} {A : Around} {E : Value → Shared → Prop} {s : Shared} {h₀ : Heap} {L : Addr} {m : Str → Option Value} {news : Ledger}
theorem append_put {l : Addr} {its : Array Value} {n : Nat} {x : Value} {Q : Value → Shared → Prop} (F : Fr h₀ L s.heap m) (N : News h₀ L s.heap news) (hm : (l, listOf its n) ∈ news) (hsz : its.size ≤ sizeLine)
    (h : ∀ h', Fr h₀ L h' m → News h₀ L h' (putAt l (listOf (its.push x) (n + 1)) news) → (∀ p ∈ news, p.2.cls ≠ .type "list" → p.1 ≠ l) → Q .none { s with heap := h' }) : wpAny (model prog w) A (call (.builtin "list.append") [.ref l, x]) Q E s := by
  have z := N _ hm
  exact append_at (hsz := hsz) z.1 fun h' hs ho' => h h' (F.change hs z.2.1 z.2.2) (news_putAt N hm hs ho') fun p hp hc => ne_of_objs N (a := p.1) (o := p.2) hp hm hc
theorem delItem_K {K : Frag} {x C f : Addr} {ox : Obj} {od : Option Obj} {i : Value} {Q : Unit → Shared → Prop} (F : Fr h₀ L s.heap m) (X₀ : K.In h₀) (I : InstAt s.heap x ox C od) (hq : noSeq K C = true) (hs : findIn K (.ref C) "__delitem__" = some (some (.ref f))) (hf : isFn K (.ref f) = true)
    (h : wpAny M A (call (.ref f) [.ref x, i]) (fun _ s' => Q () s') E s) : wpAny M A (delItem (.ref x) i) Q E s := by
  have X := X₀.keeps F.keep
  unfold delItem sequenceKey
  refine wpAny_holding (wpAny_bind (wpAny_bind (I.type.here ?_)))
  refine wpAny_bind ((anyM_none X hq).here ?_)
  rw [if_pos (show (!false) = true from rfl)]
  exact wpAny_pure (wpAny_bind (special_fn X I hs (beq_iff_eq.mp hf) (wpAny_mono h (fun _ _ z => wpAny_pure z) fun _ _ z => z)))
end
-- MACROS
local macro_rules | `(tactic| walk_at "delItem ref") => `(tactic| (k_here; (with_reducible show wpAny _ _ (delItem (Value.ref _) _) _ _ _); k_dflt (refine' delItem_K ?F ?X ?I ?hQ ?hS ?hF ?_; (case F => k_asm); (case X => k_asm); (case I => k_inst); (case hS => k_is); (case hF => k_is); (case hQ => k_is); k_whole)))
local macro_rules | `(tactic| walk_at "delItem ref str") => `(tactic| walk_at "delItem ref")
-- END MACROS

-- NEEDS: p00_head p02_ledger
-- MACROS
local macro_rules | `(tactic| k_room) => `(tactic| ktr_room)
local macro_rules | `(tactic| k_units) => `(tactic| ktr_units)
-- END MACROS

/-- what a call of the def f tells, from the frame of any def: the answer and the ledger behind it -/
noncomputable def Tells (prog : Program) (w : World) (p : Program) (loose : List Str) (mean : ExcName → Option Value) (mg mb : Str → Option Value) (dd uu : Nat) (f : Value) (args : List Value) (kw : List (Str × Value)) (news : Ledger) (Post : Value → Ledger → Prop) : Prop :=
  ∀ (dp un : Nat) (gd : Option (List Code)) (cn : Str) (cs : Scope) (a : Addr) (ccd : Value) (cl : List (Str × Addr)) (outer : List Env) (A₀ : Around) (base h₀ : Heap) (L : Addr) (m : Str → Option Value) (s : Shared) (Q E : Value → Shared → Prop),
    Below A₀ base outer h₀ → Fr h₀ L s.heap m → (Mine.hd.heap_1 w.params).In h₀ → News h₀ L s.heap news → Top p loose mean mg mb h₀ → cs.kind = .function → dp + dd < recursionLimit → un + uu < cLine →
    (∀ r news' h' tk', Post r news' → Fr h₀ L h' m → News h₀ L h' news' → Q r { s with heap := h', toks := tk' }) →
    wpAny (model prog w) (ktrTop dp un gd cn cs L a ccd cl outer) (call f args kw) Q E s

theorem Tells.use {prog : Program} {w : World} {p : Program} {loose : List Str} {mean : ExcName → Option Value} {mg mb : Str → Option Value} {dd uu : Nat} {f : Value} {args : List Value} {kw : List (Str × Value)} {news : Ledger} {Post : Value → Ledger → Prop}
    {dp un : Nat} {gd : Option (List Code)} {cn : Str} {cs : Scope} {a : Addr} {ccd : Value} {cl : List (Str × Addr)} {outer : List Env} {A₀ : Around} {base h₀ : Heap} {L : Addr} {m : Str → Option Value} {s : Shared} {Q E : Value → Shared → Prop}
    (B : Below A₀ base outer h₀) (F : Fr h₀ L s.heap m) (X : (Mine.hd.heap_1 w.params).In h₀) (N : News h₀ L s.heap news) (T : Top p loose mean mg mb h₀) (hk : cs.kind = .function) (C : Tells prog w p loose mean mg mb dd uu f args kw news Post) (hd : dp + dd < recursionLimit) (hu : un + uu < cLine)
    (ret : ∀ r news' h' tk', Post r news' → Fr h₀ L h' m → News h₀ L h' news' → Q r { s with heap := h', toks := tk' }) :
    wpAny (model prog w) (ktrTop dp un gd cn cs L a ccd cl outer) (call f args kw) Q E s := C _ _ _ _ _ _ _ _ _ _ _ _ _ _ _ _ _ B F X N T hk hd hu ret

-- MACROS
/-- the side goals of entering a def -/
local macro_rules | `(tactic| walk_at "m e1") => `(tactic| ((case kA => exact rfl); (case kF => exact rfl); (case kK => assumption); (case k1 => k_asm); (case k2 => k_asm); (case k3 => k_asm); (case k4 => k_asm); (case k5 => k_asm); (case k6 => k_is); (case k7 => k_is); (case k8 => ktr_room)))
local macro_rules | `(tactic| walk_at "m e9") => `(tactic| ((case k9 => first | exact BindsTo.of_eq rfl | exact binds_K (by k_in) rfl (by k_is) rfl rfl rfl | (refine' kp_binds ?kx ?ke; (case kx => k_in); (case ke => exact fun _ => rfl)))))
local macro_rules | `(tactic| walk_at "m ec") => `(tactic| ((case c2 => exact rfl); (case c3 => exact rfl); (case c4 => exact rfl)))
/-- behind a contract's use -/
local macro_rules | `(tactic| walk_at "m tail") => `(tactic| ((try k_sweep); (try dsimp only); (try k_fold)))
local macro_rules | `(tactic| walk_at "m back") => `(tactic| ((intro r' n' h' tk' hP' F' N'; obtain ⟨e1', ⟨t', e2'⟩⟩ := hP'; replace e1' := Eq.symm e1'; subst e1'; subst e2'); walk_at "m tail"))
/-- a name that a hypothesis tells, loaded -/
local macro_rules | `(tactic| walk_at "m load") => `(tactic| (k_here; k_dflt (refine' ldn ?k1 ?k2 ?_; (case k1 => k_asm); (case k2 => first | exact rfl | assumption); k_whole)))
/-- entering a def from any def's frame -/
local macro_rules | `(tactic| walk_at "m enter") => `(tactic| (refine wpAny_call ?_; k_dflt (first
  | (refine' code_def ?k1 ?k2 ?k3 ?k4 ?k5 ?kA ?kF ?kK ?k6 ?k7 ?k8 ?k9 ?kB ?_ ?c2 ?c3 ?c4 ?c5; walk_at "m e1"; walk_at "m e9"; (case c5 => decide); (case kB => exact locs rfl); walk_at "m ec"; k_whole; intro g' L' h' FG' F' N' B' X' T'; (try dsimp only); (try k_lift B'); (try k_fold))
  | (refine' code_defC ?k1 ?k2 ?k3 ?k4 ?k5 ?kA ?kF ?kK ?k6 ?k7 ?k8 ?k9 ?kB ?kD ?_ ?c2 ?c3 ?c4; walk_at "m e1"; walk_at "m e9"; (case kB => exact rfl); (case kD => decide +kernel); walk_at "m ec"; k_whole; intro g' L' h' tk' cells' FG' F' N' Y' B' X' T' l1; (try k_lt l1); k_cells Y'; (try simp only [List.cons_append, List.nil_append] at N'); (try dsimp only); (try k_lift B'); (try k_fold)))))
/-- the side goals of a contract's use -/
local macro_rules | `(tactic| walk_at "m sides") => `(tactic| (
  (case k1 => k_asm); (case k2 => k_asm); (case k3 => k_asm); (case k4 => k_asm); (case k5 => k_asm); (case kK => first | exact rfl | assumption); (case kd => ktr_room); (case ku => ktr_units)))
/-- a name whose value a hypothesis tells -/
local macro_rules | `(tactic| walk_at "eval Name") => `(tactic| (k_here; k_dflt (first
  | (refine' ld ?k1 ?k2 ?_; (case k1 => k_asm); (case k2 => first | exact rfl | assumption); k_whole)
  | (refine' nameX_L ?F ?v ?_ ?a ?b; (case F => k_asm); (case a => rfl); (case b => rfl); (case v => first | exact rfl | assumption); k_whole))))
/-- an entry of the ledger: written, or told by a hypothesis -/
local macro_rules | `(tactic| k_mem) => `(tactic| first | exact List.Mem.head _ | assumption | (refine' List.Mem.tail _ ?_; k_mem))
-- END MACROS
theorem ne_lt0 {l : Ledger} {d : Addr} (h : ∀ p ∈ l, p.1 < d) : ∀ p ∈ l, p.1 ≠ d := fun p hp => Nat.ne_of_lt (h p hp)
theorem ne_lt1 {l : Ledger} {d k : Nat} (h : ∀ p ∈ l, p.1 < d) : ∀ p ∈ l, p.1 ≠ d + k := fun p hp => Nat.ne_of_lt (Nat.lt_of_lt_of_le (h p hp) (Nat.le_add_right d k))
theorem lt_tl {a : Addr × Obj} {l : Ledger} {d : Addr} (h : ∀ p ∈ a :: l, p.1 < d) : ∀ p ∈ l, p.1 < d := fun p hp => h p (.tail _ hp)
-- MACROS
local macro_rules | `(tactic| k_lt $h:ident) => `(tactic| (have l9 := $h; (try (replace $h := allLt_of $h; simp only [AllLt, and_true] at $h:ident))))
local macro_rules | `(tactic| k_all) => `(tactic| first
  | exact ne_lt0 (by assumption) | exact ne_lt1 (by assumption) | exact ne_lt0 (lt_tl (by assumption)) | exact ne_lt1 (lt_tl (by assumption)) | exact ne_lt0 (lt_tl (lt_tl (by assumption))) | exact ne_lt1 (lt_tl (lt_tl (by assumption))) | exact ne_lt0 (lt_tl (lt_tl (lt_tl (by assumption)))) | assumption)
-- END MACROS

theorem patN {P : Params} {h : Heap} (X : (Mine.hd.heap_1 P).In h) : PatAt h 48 codeN :=
  ⟨_, _, 47, _, _, _, X 48 _ rfl, rfl, rfl, rfl, rfl, rfl, rfl, X 47 _ rfl, rfl, by decide +kernel⟩
theorem patV {P : Params} {h : Heap} (X : (Mine.hd.heap_1 P).In h) : PatAt h 53 codeV :=
  ⟨_, _, 52, _, _, _, X 53 _ rfl, rfl, rfl, rfl, rfl, rfl, rfl, X 52 _ rfl, rfl, by decide +kernel⟩
-- MACROS
local macro_rules | `(tactic| walk_at "mine pat") => `(tactic| first | exact patN (by k_in) | exact patV (by k_in))
local macro_rules | `(tactic| walk_at "getMethod ref") => `(tactic| (k_here; (with_reducible show wpAny _ _ (getMethod (Value.ref _) (PySem.Str.ofString "search") _) _ _ _); k_dflt (refine' method_search ?k1 ?_; (case k1 => walk_at "mine pat"); k_whole)))
local macro_rules | `(tactic| walk_at "call builtin:re.Pattern.search") => `(tactic| (k_here; k_dflt (refine' call_search ?k1 ?k2 ?k3 ?k4 ?_; (case k1 => walk_at "mine pat"); (case k2 => first | exact .inl rfl | exact .inr rfl); (case k3 => assumption); (case k4 => assumption); k_whole)))
-- END MACROS

set_option maxHeartbeats 0 in
theorem conv_tells {prog : Program} {w : World} {p : Program} {loose : List Str} {mean : ExcName → Option Value} {mg mb : Str → Option Value} {x : Addr} {v : Str} {t : Tok} {b : Bool} {news : Ledger} (hv : Plain v) (hz : v.length ≤ sizeLine) :
    Tells prog w p loose mean mg mb 2 20 (.ref 83) [.ref x, .str v t] [(Str.ofString "name", .bool b)] news (fun r news' => r = .str v t ∧ news' = news) := by
  intro dp un gd cn cs a ccd cl outer A₀ base h₀ L m s Q E B F X N T hk hd hu hret
  walk_at "m enter"
  k_steps
  all_goals exact hret _ _ _ _ ⟨rfl, rfl⟩ (by k_asm) (by k_asm)
-- MACROS
local macro_rules | `(tactic| walk_at "m small") => `(tactic| first | assumption | (simp only [Str.length_append, sizeLine_eq] at *; omega) | (rw [sizeLine_eq]; omega))
local macro_rules | `(tactic| walk_at "call ref") => `(tactic| (k_here; (with_reducible show wpAny _ _ (call (Value.ref 83) _ _) _ _ _); k_dflt (refine' Tells.use ?k1 ?k2 ?k3 ?k4 ?k5 ?kK (conv_tells ?v ?z) ?kd ?ku ?_; walk_at "m sides"; (case v => assumption); (case z => walk_at "m small"); (intro r' n' h' tk' hP' F' N'; obtain ⟨e1', e2'⟩ := hP'; subst e1'; replace e2' := Eq.symm e2'; subst e2'); walk_at "m tail")))
-- END MACROS

/-- what get looks for: the first pair whose name reads so -/
noncomputable def found (kvs : List (Str × Str)) (q : Str) : Option Str := (kvs.find? fun kv => Txt.lower kv.1 == q).map (·.2)
theorem found_nil (q : Str) : found [] q = none := rfl
theorem found_cons (kv : Str × Str) (kvs : List (Str × Str)) (q : Str) : found (kv :: kvs) q = if Txt.lower kv.1 = q then some kv.2 else found kvs q := by
  unfold found
  rw [List.find?_cons]
  by_cases h : Txt.lower kv.1 = q
  · simp [h]
  · rw [if_neg h]
    have : (Txt.lower kv.1 == q) = false := by simpa using h
    rw [this]
/-- names that may stand in a Headers here -/
noncomputable def Short (x : Str) : Prop := x.length ≤ 1000
noncomputable def NameOk (x : Str) : Prop := Short x ∧ Plain (Txt.lower x) ∧ (Txt.lower x).length ≤ sizeLine ∧ Short (Txt.lower x)

set_option maxHeartbeats 0 in
theorem get_tells {prog : Program} {w : World} {p : Program} {loose : List Str} {mean : ExcName → Option Value} {mg mb : Str → Option Value} {x dx l : Addr} {as : List Addr} {n : Nat} {kvs : List (Str × Str)} {v : Str} {t : Tok} {news : Ledger}
    (H : Hdr w.params news x dx l as n kvs) (hv : NameOk v) (hs : ∀ kv ∈ kvs, Short kv.1) :
    Tells prog w p loose mean mg mb 4 40 (.ref 129) [.ref x, .str v t] [] news (fun r news' => news' = news ∧ match found kvs (Txt.lower v) with | some y => ∃ t', r = .str y t' | none => r = .none) := by
  intro dp un gd cn cs a ccd cl outer A₀ base h₀ L m s Q E B F X N T hk hd hu hret
  obtain ⟨hx, ⟨tk, hdx⟩, hl, hp⟩ := H
  obtain ⟨hv1, hv2, hv3, hv4⟩ := hv
  unfold Short at hv1
  walk_at "m enter"
  k_steps
  (rename Fr _ _ _ _ => lF'); with_unfolding_all refine' For_turns lF' ?_
  k_steps
  (rename Fr _ _ _ _ => lF'); (rename News _ _ _ _ => lN')
  with_unfolding_all refine iter_listTurns (vs := as.map Value.ref) (by rfl) lF' lN' hl (by rfl) (by rfl) (fun I l1 => ?_)
  clear lF' lN'
  refine items_ind (fun xs m' n' => n' = news ∧ (∃ t', m' (Str.ofString "name") = some (.str (Txt.lower v) t')) ∧ m' (Str.ofString "default") = some .none ∧
    ∃ as' kvs', xs = (as'.map Value.ref).map Itm.val ∧ Pairs news as' kvs' ∧ (∀ kv ∈ kvs', Short kv.1) ∧ found kvs' (Txt.lower v) = found kvs (Txt.lower v)) ?_ ?_ _ _ _ ?_
  · intro m' n' ⟨e, ⟨t', hm⟩, hm2, as', kvs', hxs, hps, hss, hf⟩
    subst n'
    cases hps with
    | cons _ _ _ _ _ => cases hxs
    | nil =>
    refine ItemsRest.zero (fun h' tk' F' N' => ?_)
    k_steps
    exact hret _ _ _ _ ⟨rfl, by rw [← hf]; rfl⟩ (by k_asm) (by k_asm)
  · intro a' r' m' n' ⟨e, ⟨t', hm⟩, hm2, as', kvs', hxs, hps, hss, hf⟩ IH
    subst n'
    cases hps with
    | nil => cases hxs
    | @cons a₁ as₁ kv kvs₁ t₁ t₂ n₁ hmem hrest =>
    cases hxs
    refine ItemsRest.val (fun h' tk' F' => ?_)
    refine AllObj.cons (fun o' hc' => ?_)
    refine AllObj.nil (fun N' => ?_)
    simp only [List.cons_append, List.nil_append] at N'
    have hk1 : kv.1.length ≤ 1000 := hss kv (.head _)
    k_steps
    · exact hret _ _ _ _ ⟨rfl, by rw [← hf, found_cons, if_pos (beq_iff_eq.mp (by assumption))]; exact ⟨_, rfl⟩⟩ (by k_asm) (cb_drop (by k_asm) fun p hp => .tail _ hp)
    · (rename Fr _ _ _ _ => F₂); (rename News _ _ _ _ => N₂)
      exact unr_end1 F₂ N₂ (fun p hp => Nat.ne_of_lt (l1 p hp)) ⟨⟨hl, trivial⟩, IH _ _ ⟨rfl, ⟨_, hm⟩, hm2, as₁, kvs₁, rfl, hrest, fun kv' hkv => hss kv' (.tail _ hkv), by rw [← hf, found_cons, if_neg (beq_eq_false_iff_ne.mp (by assumption))]⟩⟩
  · exact ⟨rfl, ⟨_, rfl⟩, rfl, as, kvs, rfl, hp, hs, rfl⟩

-- NEEDS: p00_head p02_ledger p03_tells
/-- what _law_name gives -/
noncomputable def nameOf (front : Str) (size odd : Int) : Str := if odd = 1 then Txt.upper (front ++ Str.ofString (toString size)) else front ++ Str.ofString (toString size)

set_option maxHeartbeats 0 in
theorem name_tells {prog : Program} {w : World} {p : Program} {loose : List Str} {mean : ExcName → Option Value} {mg mb : Str → Option Value} {front : Str} {size odd : Int} {t₁ t₂ t₃ : Tok} {news : Ledger}
    (hf : front.length ≤ 100) (h0 : 0 ≤ size) (h1 : size ≤ 5) (hl : (front ++ Str.ofString (toString size)).length ≤ 1000) :
    Tells prog w p loose mean mg mb 4 40 (.ref 247) [.str front t₁, .int size t₂, .int odd t₃] [] news (fun r news' => news' = news ∧ ∃ t', r = .str (nameOf front size odd) t') := by
  intro dp un gd cn cs a ccd cl outer A₀ base h₀ L m s Q E B F X N T hk hd hu hret
  walk_at "m enter"
  k_steps
  · refine hret _ _ _ _ ⟨rfl, ?_⟩ (by k_asm) (by k_asm)
    unfold nameOf
    rw [if_pos (by simpa using ‹_›)]
    exact ⟨_, rfl⟩
  · refine hret _ _ _ _ ⟨rfl, ?_⟩ (by k_asm) (by k_asm)
    unfold nameOf
    rw [if_neg (by simpa using ‹_›)]
    exact ⟨_, rfl⟩

-- NEEDS: p00_head p02_ledger p02b_loops p03_tells
/-- the first whole part of wide W that nobody has, from the i-th on, k of them -/
noncomputable def firstFrom (zs : List Int) (W : Nat) : Nat → Nat → Option Nat
  | 0, _ => none
  | k + 1, i => if ((zs.drop (i * W)).take W).sum = 0 then some (i * W) else firstFrom zs W k (i + 1)
noncomputable def wideOf (size : Int) : Nat := 32 / 2 ^ size.toNat
noncomputable def firstOf (zs : List Int) (size : Int) : Option Nat := firstFrom zs (wideOf size) (32 / wideOf size) 0
theorem block_eq {zs : List Int} (hl : zs.length = 32) {i W : Nat} (h : (i + 1) * W ≤ 32) :
    List.take (min (((i * W : Nat) : Int) + (W : Int)).toNat zs.length - (((i * W : Nat) : Int)).toNat) (List.drop (((i * W : Nat) : Int)).toNat zs) = (zs.drop (i * W)).take W := by
  have e1 : (((i * W : Nat) : Int) + (W : Int)).toNat = i * W + W := by omega
  have e2 : (((i * W : Nat) : Int)).toNat = i * W := by omega
  have e3 : i * W + W ≤ 32 := by rw [Nat.add_mul, Nat.one_mul] at h; exact h
  rw [e1, e2, hl, show min (i * W + W) 32 - i * W = W by omega]
section
local macro_rules | `(tactic| walk_at "exec For Name Call cons nil") => `(tactic| (k_here; (rename Fr _ _ _ _ => lF'); (with_unfolding_all refine' For_turns lF' ?_; k_whole)))
set_option maxHeartbeats 0 in
theorem first_tells {prog : Program} {w : World} {p : Program} {loose : List Str} {mean : ExcName → Option Value} {mg mb : Str → Option Value} {c : Addr} {zs : List Int} {vs : List Value} {n : Nat} {size : Int} {t₁ : Tok} {news : Ledger}
    (hc : (c, listOf vs.toArray n) ∈ news) (hi : IntsAre vs zs) (hl : zs.length = 32) (h0 : 1 ≤ size) (h1 : size ≤ 5) :
    Tells prog w p loose mean mg mb 4 40 (.ref 261) [.ref c, .int size t₁] [] news (fun r news' => news' = news ∧ match firstOf zs size with | some j => ∃ t', r = .int (j : Nat) t' | none => r = .none) := by
  obtain ⟨W, hW, hWo, hW'⟩ : ∃ W : Nat, Int.fdiv 32 (2 ^ size.toNat) = (W : Int) ∧ wideOf size = W ∧ (W = 16 ∨ W = 8 ∨ W = 4 ∨ W = 2 ∨ W = 1) := by
    have : size = 1 ∨ size = 2 ∨ size = 3 ∨ size = 4 ∨ size = 5 := by omega
    rcases this with rfl | rfl | rfl | rfl | rfl
    · exact ⟨16, by decide, by decide, by decide⟩
    · exact ⟨8, by decide, by decide, by decide⟩
    · exact ⟨4, by decide, by decide, by decide⟩
    · exact ⟨2, by decide, by decide, by decide⟩
    · exact ⟨1, by decide, by decide, by decide⟩
  intro dp un gd cn cs a ccd cl outer A₀ base h₀ L m s Q E B F X N T hk hd hu hret
  walk_at "m enter"
  k_steps
  simp only [hW] at *
  k_steps
  (rename IsRange _ _ _ _ _ _ _ _ => hR); (rename Fr _ _ _ _ => lF'); (rename News _ _ _ _ => lN')
  with_unfolding_all refine iter_rangeTurns (n := 32 / W) (by rfl) hR (by rcases hW' with rfl | rfl | rfl | rfl | rfl <;> decide) (by rcases hW' with rfl | rfl | rfl | rfl | rfl <;> decide) lF' lN' (fun I l1 => ?_)
  clear lF' lN'
  refine items_ind (fun xs m' n' => n' = news ∧ (∃ t', m' (Str.ofString "wide") = some (.int W t')) ∧ m' (Str.ofString "cells") = some (.ref c) ∧
    ∃ i, i ≤ 32 / W ∧ xs = rangeItems W (32 / W - i) ((i * W : Nat) : Int) ∧ firstFrom zs W (32 / W - i) i = firstOf zs size) ?_ ?_ _ _ _ ?_
  · intro m' n' ⟨e, ⟨t', hm⟩, hm2, i, hi1, hxs, hf⟩
    subst n'
    have h9 : 32 / W - i = 0 := by have := congrArg List.length hxs; rw [rangeItems_length] at this; exact this.symm
    rw [h9] at hf
    refine ItemsRest.zero (fun h' tk' F' N' => ?_)
    k_steps
    exact hret _ _ _ _ ⟨rfl, by rw [← hf]; rfl⟩ (by k_asm) (by k_asm)
  · intro a' r' m' n' ⟨e, ⟨t', hm⟩, hm2, i, hi1, hxs, hf⟩ IH
    subst n'
    have hlt : i < 32 / W := by
      rcases Nat.lt_or_ge i (32 / W) with h | h
      · exact h
      · rw [show 32 / W - i = 0 by omega] at hxs; cases hxs
    have hb : (i + 1) * W ≤ 32 := by
      have : (i + 1) * W ≤ 32 / W * W := Nat.mul_le_mul_right W hlt
      exact Nat.le_trans this (Nat.div_mul_le_self 32 W)
    rw [show 32 / W - i = (32 / W - (i + 1)) + 1 by omega] at hxs hf
    injection hxs with e1 e2
    subst e1
    refine ItemsRest.tok (fun t' h' tk' F' => ?_)
    refine AllObj.cons (fun o' hc' => ?_)
    refine AllObj.nil (fun N' => ?_)
    simp only [List.cons_append, List.nil_append] at N'
    k_steps
    · (rename List.sum _ = 0 => hz)
      rw [block_eq hl hb] at hz
      refine hret _ _ _ _ ⟨rfl, ?_⟩ (by k_asm) (cb_drop (by k_asm) fun p hp => .tail _ (.tail _ hp))
      rw [← hf, firstFrom, if_pos hz]
      exact ⟨_, rfl⟩
    · (rename List.sum _ ≠ 0 => hz); (rename Fr _ _ _ _ => F₂); (rename News _ _ _ _ => N₂)
      rw [block_eq hl hb] at hz
      refine unr_end1 F₂ (cb_drop N₂ fun p hp => .tail _ hp) (fun p hp => Nat.ne_of_lt (l1 p hp)) ⟨trivial, IH _ _ ⟨rfl, ⟨_, hm⟩, hm2, i + 1, hlt, ?_, ?_⟩⟩
      · rw [e2]
        congr 1
        rw [Nat.add_mul, Nat.one_mul]; rfl
      · rw [← hf, firstFrom, if_neg hz]
  · exact ⟨rfl, ⟨_, rfl⟩, rfl, 0, Nat.zero_le _, by simp, by rw [firstOf, hWo]; rfl⟩
end

-- NEEDS: p00_head p02_ledger p02b_loops p03_tells p07_first
/-- the row with the part of that size taken from j on -/
noncomputable def takenOf (zs : List Int) (j : Nat) (size : Int) : List Int := zs.take j ++ List.replicate (wideOf size) 1 ++ zs.drop (j + wideOf size)
theorem taken_eq {zs : List Int} {j W : Nat} {size : Int} (h : wideOf size = W) : List.take ((j : Int)).toNat zs ++ (List.replicate ((W : Int)).toNat [(1 : Int)]).flatten ++ List.drop ((j : Int) + (W : Int)).toNat zs = takenOf zs j size := by
  have e1 : ((j : Int)).toNat = j := by omega
  have e2 : ((W : Int)).toNat = W := by omega
  have e3 : ((j : Int) + (W : Int)).toNat = j + W := by omega
  have e4 : (List.replicate W [(1 : Int)]).flatten = List.replicate W 1 := by
    induction W with
    | zero => rfl
    | succ n ih => simp [List.replicate_succ, List.flatten_cons] at *
  rw [takenOf, h, e1, e2, e3, e4]
section
local macro_rules | `(tactic| kmk_nums) => `(tactic| first | ((refine' kmk_from ?gi ?gx); (case gi => l_ints); (case gx => omega)) | ((refine' kmk_upto ?gi ?gx); (case gi => l_ints); (case gx => omega)))
set_option maxHeartbeats 0 in
theorem taken_tells {prog : Program} {w : World} {p : Program} {loose : List Str} {mean : ExcName → Option Value} {mg mb : Str → Option Value} {c : Addr} {zs : List Int} {vs : List Value} {n j : Nat} {size : Int} {t₁ t₂ : Tok} {news : Ledger}
    (hc : (c, listOf vs.toArray n) ∈ news) (hi : IntsAre vs zs) (hl : zs.length = 32) (h0 : 1 ≤ size) (h1 : size ≤ 5) (hj : j + wideOf size ≤ 32) :
    Tells prog w p loose mean mg mb 4 40 (.ref 268) [.ref c, .int (j : Nat) t₁, .int size t₂] [] news (fun r news' => ∃ D ws, r = .ref D ∧ news' = (D, listOf ws.toArray 0) :: news ∧ IntsAre ws (takenOf zs j size) ∧ ∀ p ∈ news, p.1 ≠ D) := by
  obtain ⟨W, hW, hWo, hW'⟩ : ∃ W : Nat, Int.fdiv 32 (2 ^ size.toNat) = (W : Int) ∧ wideOf size = W ∧ (W = 16 ∨ W = 8 ∨ W = 4 ∨ W = 2 ∨ W = 1) := by
    have : size = 1 ∨ size = 2 ∨ size = 3 ∨ size = 4 ∨ size = 5 := by omega
    rcases this with rfl | rfl | rfl | rfl | rfl
    · exact ⟨16, by decide, by decide, by decide⟩
    · exact ⟨8, by decide, by decide, by decide⟩
    · exact ⟨4, by decide, by decide, by decide⟩
    · exact ⟨2, by decide, by decide, by decide⟩
    · exact ⟨1, by decide, by decide, by decide⟩
  rw [hWo] at hj
  intro dp un gd cn cs a ccd cl outer A₀ base h₀ L m s Q E B F X N T hk hd hu hret
  walk_at "m enter"
  k_steps
  (rename IntsAre _ (_ ++ _ ++ _) => hI)
  rw [hW, taken_eq hWo] at hI
  (rename (∀ p ∈ _, _ < _) => hlt)
  exact hret _ _ _ _ ⟨_, _, rfl, rfl, hI, fun p hp => Nat.ne_of_lt (hlt p (.tail _ (.tail _ (.tail _ (.tail _ (.tail _ hp))))))⟩ (by k_asm) (cb_drop (by k_asm) fun p hp => by
    rcases List.mem_cons.mp hp with rfl | hp
    · exact .head _
    · exact .tail _ (.tail _ (.tail _ (.tail _ (.tail _ (.tail _ hp))))))
end

-- NEEDS: p00_head p02_ledger p02b_loops p02c_comps p03_tells
/-- the k-th sign of the word that starts at j -/
noncomputable def signAt (j : Nat) (k : Int) : Str := Txt.item (Str.ofString "()") (Int.fmod (Int.fdiv (j : Int) (2 ^ (4 - k).toNat)) 2)
noncomputable def spelledAs (j n : Nat) : List Str := (List.range n).map fun k => signAt j ((0 : Int) + (k : Nat))
noncomputable def spelledOf (j : Nat) (size : Int) : Str := Txt.join (Str.ofString "") (spelledAs j size.toNat)
theorem signAt_len (j : Nat) (k : Int) : (signAt j k).length ≤ 1 := by
  unfold signAt Txt.item
  exact Nat.le_refl 1
theorem spelledAs_len (j : Nat) : ∀ n, ((spelledAs j n).map (·.length)).sum ≤ n
  | 0 => Nat.le_refl 0
  | n + 1 => by
    have ih := spelledAs_len j n
    unfold spelledAs at ih ⊢
    rw [List.range_succ, List.map_append, List.map_append, List.sum_append]
    have := signAt_len j ((0 : Int) + (n : Nat))
    simp only [List.map_cons, List.map_nil, List.sum_cons, List.sum_nil]
    omega
theorem spelledAs_succ (j i : Nat) : spelledAs j (i + 1) = spelledAs j i ++ [signAt j ((0 : Int) + (i : Nat))] := by
  unfold spelledAs
  rw [List.range_succ, List.map_append]
  rfl
theorem spelled_snoc {j i : Nat} {ys : List Value} {t : Tok} (hy : StrsAre ys (spelledAs j i)) : StrsAre (ys ++ [Value.str (Txt.item (Str.ofString "()") (Int.fmod (Int.fdiv (j : Int) (2 ^ (4 - ((0 : Int) + (i : Nat))).toNat)) 2)) t]) (spelledAs j (i + 1)) := by
  rw [spelledAs_succ]
  exact kct_snoc hy
-- MACROS
local macro_rules | `(tactic| walk_at "call builtin:str.join") => `(tactic| (k_here; (with_reducible show wpAny _ _ (call (Value.builtin "str.join") [Value.str _ _, Value.ref _]) _ _ _); k_dflt (refine join_listW (News.isList (by k_asm) (by k_mem)) (by assumption) (by decide +kernel) (by assumption) ?_); intro _ _))
-- END MACROS
section
local macro_rules | `(tactic| walk_at "subscriptTail") => `(tactic| (k_here; (with_reducible show wpAny _ _ (subscriptTail _ _ (Value.str _ _) (Value.int _ _)) _ _ _); (refine KXi.item (by kxi_len) (by kxi_fact) (by kxi_fact) (by decide) ?_); intro kxiE))
set_option maxHeartbeats 0 in
theorem spelled_tells {prog : Program} {w : World} {p : Program} {loose : List Str} {mean : ExcName → Option Value} {mg mb : Str → Option Value} {j : Nat} {size : Int} {t₁ t₂ : Tok} {news : Ledger}
    (h0 : 1 ≤ size) (h1 : size ≤ 5) (hj : j ≤ 32) :
    Tells prog w p loose mean mg mb 4 40 (.ref 273) [.int (j : Nat) t₁, .int size t₂] [] news (fun r news' => news' = news ∧ ∃ t, r = .str (spelledOf j size) t) := by
  have hcase : size = 1 ∨ size = 2 ∨ size = 3 ∨ size = 4 ∨ size = 5 := by omega
  have hsm : Builtin.Range.small 0 size 1 = true := by rcases hcase with rfl | rfl | rfl | rfl | rfl <;> decide
  have hrs : Builtin.Range.rangeSize 0 size 1 = ((size.toNat : Nat) : Int) := by rcases hcase with rfl | rfl | rfl | rfl | rfl <;> decide
  have hzz : size.toNat ≤ sizeLine := by rw [sizeLine_eq]; omega
  intro dp un gd cn cs a ccd cl outer A₀ base h₀ L m s Q E B F X N T hk hd hu hret
  walk_at "m enter"
  k_steps
  all_goals (try k_data)
  refine comp_same (fun i ys => StrsAre ys (spelledAs j i)) ?_ .nil ?_
  · intro i v ys I oI C oC D m₂ h tk E' hi hy hv hC hx F' N' off ne
    obtain ⟨t, rfl⟩ := hv
    k_steps
    all_goals (try k_data)
    refine comp_end (by k_asm) (by k_asm) off trivial ⟨rfl, ?_⟩
    exact spelled_snoc hy
  · intro ys hy
    have hw : ((spelledAs j size.toNat).map (·.length)).sum + (spelledAs j size.toNat).length ≤ 1048576 := by
      have := spelledAs_len j size.toNat
      have e2 : (spelledAs j size.toNat).length = size.toNat := by simp [spelledAs]
      omega
    k_steps
    all_goals (try k_data)
    exact hret _ _ _ _ ⟨rfl, _, rfl⟩ (by k_asm) (cb_drop (by k_asm) fun p hp => .tail _ (.tail _ hp))
end

-- NEEDS: p00_head p02_ledger p02b_loops p02c_comps p03_tells
set_option maxHeartbeats 0 in
theorem keys_tells {prog : Program} {w : World} {p : Program} {loose : List Str} {mean : ExcName → Option Value} {mg mb : Str → Option Value} {x dx l : Addr} {as : List Addr} {n : Nat} {kvs : List (Str × Str)} {news : Ledger}
    (H : Hdr w.params news x dx l as n kvs) (hsz : (as.map Value.ref).toArray.size ≤ sizeLine) :
    Tells prog w p loose mean mg mb 4 40 (.ref 134) [.ref x] [] news (fun r news' => ∃ D ys, r = .ref D ∧ news' = (D, LCg.lst ys) :: news ∧ StrsAre ys (kvs.map (·.1)) ∧ ∀ p ∈ news, p.1 ≠ D) := by
  intro dp un gd cn cs a ccd cl outer A₀ base h₀ L m s Q E B F X N T hk hd hu hret
  obtain ⟨hx, ⟨tk, hdx⟩, hl, hp⟩ := H
  walk_at "m enter"
  k_steps
  refine comp_start (compP_ind (fun i ys n' => n' = news ∧ StrsAre ys ((kvs.take i).map (·.1))) as.length ?_ ?_ _ 0 [] news (by simp) ⟨rfl, .nil⟩)
  · intro i v ys n' hi hJ hv
    obtain ⟨e, hy⟩ := hJ
    subst n'
    obtain ⟨a, ha, rfl⟩ := ref_get hv
    obtain ⟨kv, t₁, t₂, n₁, hkv, hm⟩ := hp.get i a ha
    refine ⟨a, _, _, _, _, rfl, hm, rfl, rfl, ?_⟩
    intro I oI C oC D m₂ h tk E' hC hx hx₂ F' N' off ne
    k_steps
    refine comp_end (by k_asm) (by k_asm) off (.inr ⟨_, hl, rfl, _, rfl⟩) ⟨rfl, ?_⟩
    rw [List.take_add_one, hkv]
    simpa using kct_snoc hy
  · intro ys n' hJ
    obtain ⟨e, hy⟩ := hJ
    subst n'
    rw [hp.length, List.take_length] at hy
    k_steps
    (rename LCg.Off1 _ _ => hoff)
    exact hret _ _ _ _ ⟨_, _, rfl, rfl, hy, off1_mem hoff⟩ (by k_asm) (by k_asm)
set_option maxHeartbeats 0 in
theorem values_tells {prog : Program} {w : World} {p : Program} {loose : List Str} {mean : ExcName → Option Value} {mg mb : Str → Option Value} {x dx l : Addr} {as : List Addr} {n : Nat} {kvs : List (Str × Str)} {news : Ledger}
    (H : Hdr w.params news x dx l as n kvs) (hsz : (as.map Value.ref).toArray.size ≤ sizeLine) :
    Tells prog w p loose mean mg mb 4 40 (.ref 139) [.ref x] [] news (fun r news' => ∃ D ys, r = .ref D ∧ news' = (D, LCg.lst ys) :: news ∧ StrsAre ys (kvs.map (·.2)) ∧ ∀ p ∈ news, p.1 ≠ D) := by
  intro dp un gd cn cs a ccd cl outer A₀ base h₀ L m s Q E B F X N T hk hd hu hret
  obtain ⟨hx, ⟨tk, hdx⟩, hl, hp⟩ := H
  walk_at "m enter"
  k_steps
  refine comp_start (compP_ind (fun i ys n' => n' = news ∧ StrsAre ys ((kvs.take i).map (·.2))) as.length ?_ ?_ _ 0 [] news (by simp) ⟨rfl, .nil⟩)
  · intro i v ys n' hi hJ hv
    obtain ⟨e, hy⟩ := hJ
    subst n'
    obtain ⟨a, ha, rfl⟩ := ref_get hv
    obtain ⟨kv, t₁, t₂, n₁, hkv, hm⟩ := hp.get i a ha
    refine ⟨a, _, _, _, _, rfl, hm, rfl, rfl, ?_⟩
    intro I oI C oC D m₂ h tk E' hC hx hx₂ F' N' off ne
    k_steps
    refine comp_end (by k_asm) (by k_asm) off (.inr ⟨_, hl, rfl, _, rfl⟩) ⟨rfl, ?_⟩
    rw [List.take_add_one, hkv]
    simpa using kct_snoc hy
  · intro ys n' hJ
    obtain ⟨e, hy⟩ := hJ
    subst n'
    rw [hp.length, List.take_length] at hy
    k_steps
    (rename LCg.Off1 _ _ => hoff)
    exact hret _ _ _ _ ⟨_, _, rfl, rfl, hy, off1_mem hoff⟩ (by k_asm) (by k_asm)

-- NEEDS: p00_head p01_search p02_ledger p02b_loops p02c_comps p03_tells p04_conv p05_get
/-- the values under a name -/
noncomputable def allOf (kvs : List (Str × Str)) (q : Str) : List Str := (kvs.filter fun kv => Txt.lower kv.1 == q).map (·.2)
theorem allOf_take_succ {kvs : List (Str × Str)} {q : Str} {i : Nat} {kv : Str × Str} (h : kvs[i]? = some kv) : allOf (kvs.take (i + 1)) q = if Txt.lower kv.1 == q then allOf (kvs.take i) q ++ [kv.2] else allOf (kvs.take i) q := by
  unfold allOf
  rw [List.take_add_one, h, Option.toList_some, List.filter_append, List.map_append]
  cases e : (Txt.lower kv.1 == q) <;> simp [e]

theorem all_snoc {kvs : List (Str × Str)} {q : Str} {i : Nat} {kv : Str × Str} {ys : List Value} {t : Tok} (h : kvs[i]? = some kv) (hb : (Txt.lower kv.1 == q) = true) (hy : StrsAre ys (allOf (kvs.take i) q)) : StrsAre (ys ++ [Value.str kv.2 t]) (allOf (kvs.take (i + 1)) q) := by
  rw [allOf_take_succ h, if_pos hb]
  exact kct_snoc hy
theorem all_skip {kvs : List (Str × Str)} {q : Str} {i : Nat} {kv : Str × Str} {ys : List Value} (h : kvs[i]? = some kv) (hb : (Txt.lower kv.1 == q) = false) (hy : StrsAre ys (allOf (kvs.take i) q)) : StrsAre ys (allOf (kvs.take (i + 1)) q) := by
  rw [allOf_take_succ h, if_neg (by rw [hb]; exact Bool.false_ne_true)]
  exact hy
section
local macro_rules | `(tactic| walk_at "subscriptTail") => `(tactic| (k_here; (with_reducible show wpAny _ _ (subscriptTail _ _ (Value.ref _) (Value.int _ _)) _ _ _); k_dflt (refine' item_tupleT ?t ?a ?b ?c ?d ?_; (case t => exact News.isTup (by k_asm) (by k_mem)); (case a => decide); (case b => decide); (case c => rfl); (case d => rfl); k_whole)))
set_option maxHeartbeats 0 in
theorem getall_tells {prog : Program} {w : World} {p : Program} {loose : List Str} {mean : ExcName → Option Value} {mg mb : Str → Option Value} {x dx l : Addr} {as : List Addr} {n : Nat} {kvs : List (Str × Str)} {v : Str} {t : Tok} {news : Ledger}
    (H : Hdr w.params news x dx l as n kvs) (hv : NameOk v) (hs : ∀ kv ∈ kvs, Short kv.1) (hsz : (as.map Value.ref).toArray.size ≤ sizeLine) :
    Tells prog w p loose mean mg mb 4 40 (.ref 121) [.ref x, .str v t] [] news (fun r news' => ∃ D ys, r = .ref D ∧ news' = (D, LCg.lst ys) :: news ∧ StrsAre ys (allOf kvs (Txt.lower v)) ∧ ∀ p ∈ news, p.1 ≠ D) := by
  intro dp un gd cn cs a ccd cl outer A₀ base h₀ L m s Q E B F X N T hk hd hu hret
  obtain ⟨hx, ⟨tk, hdx⟩, hl, hp⟩ := H
  obtain ⟨hv1, hv2, hv3, hv4⟩ := hv
  unfold Short at hv1
  walk_at "m enter"
  k_steps
  all_goals (try k_data)
  refine compT_same (fun i ys => StrsAre ys (allOf (kvs.take i) (Txt.lower v))) ?_ .nil ?_
  · intro i vv ys I oI C oC D m₂ h tk E' hi hy hv' hC hx' F' N' off ne
    obtain ⟨a, ha, rfl⟩ := ref_get hv'
    obtain ⟨kv, t₁, t₂, n₁, hkv, hm⟩ := hp.get i a ha
    have hk1 : kv.1.length ≤ 1000 := hs kv (List.mem_of_getElem? hkv)
    k_steps
    all_goals (try k_data)
    · (rename (Txt.lower _ == _) = true => hb)
      exact comp_end (by k_asm) (by k_asm) off (.inr ⟨_, .tail _ hl, rfl, _, rfl⟩) ⟨rfl, all_snoc hkv hb hy⟩
    · (rename (Txt.lower _ == _) = false => hb)
      exact comp_end (by k_asm) (by k_asm) off (.inr ⟨_, .tail _ hl, rfl, _, rfl⟩) ⟨rfl, all_skip hkv hb hy⟩
  · intro ys hy
    rw [show (as.map Value.ref).toArray.size = kvs.length by simp [hp.length], List.take_length] at hy
    k_steps
    all_goals (try k_data)
    (rename (_ ∧ LCg.Off1 _ _) => hoff)
    exact hret _ _ _ _ ⟨_, _, rfl, rfl, hy, off1_mem hoff.2⟩ (by k_asm) (cb_drop (by k_asm) fun p hp => by
      rcases List.mem_cons.mp hp with rfl | hp
      · exact .head _
      · exact .tail _ (.tail _ hp))
end

-- NEEDS: p00_head p01_search p02_ledger p02b_loops p02c_comps p02d_setall p03_tells p04_conv p05_get
theorem del_snoc {news : Ledger} {kvs : List (Str × Str)} {q : Str} {i : Nat} {kv : Str × Str} {a : Addr} {t₁ t₂ : Tok} {n₁ : Nat} {as' : List Addr} (h : kvs[i]? = some kv) (hm : (a, tupO #[.str kv.1 t₁, .str kv.2 t₂] n₁) ∈ news) (hb : (Txt.lower kv.1 != q) = true) (hy : Pairs news as' (delOf (kvs.take i) q)) :
    ∃ as'', as'.map Value.ref ++ [Value.ref a] = as''.map Value.ref ∧ Pairs news as'' (delOf (kvs.take (i + 1)) q) := by
  refine ⟨as' ++ [a], by simp, ?_⟩
  rw [delOf_take_succ h, if_pos hb]
  exact hy.append (.cons t₁ t₂ n₁ hm .nil)
theorem del_skip {news : Ledger} {kvs : List (Str × Str)} {q : Str} {i : Nat} {kv : Str × Str} {as' : List Addr} (h : kvs[i]? = some kv) (hb : (Txt.lower kv.1 != q) = false) (hy : Pairs news as' (delOf (kvs.take i) q)) :
    ∃ as'', as'.map Value.ref = as''.map Value.ref ∧ Pairs news as'' (delOf (kvs.take (i + 1)) q) := by
  refine ⟨as', rfl, ?_⟩
  rw [delOf_take_succ h, if_neg (by rw [hb]; exact Bool.false_ne_true)]
  exact hy
section
local macro_rules | `(tactic| walk_at "eval Name") => `(tactic| (k_here; name_kind "cell"; k_dflt (refine' nameX_C ?N ?c ?m ?d ?_ ?a ?b; (case a => rfl); (case b => kernel_rfl); (case N => k_asm); (case c => rfl); (case m => k_mem); (case d => k_asm); k_whole)))
local macro_rules | `(tactic| walk_at "subscriptTail") => `(tactic| (k_here; (with_reducible show wpAny _ _ (subscriptTail _ _ (Value.ref _) (Value.int _ _)) _ _ _); k_dflt (refine' item_tupleT ?t ?a ?b ?c ?d ?_; (case t => exact News.isTup (by k_asm) (by k_mem)); (case a => decide); (case b => decide); (case c => rfl); (case d => rfl); k_whole)))
set_option maxHeartbeats 0 in
theorem del_tells {prog : Program} {w : World} {p : Program} {loose : List Str} {mean : ExcName → Option Value} {mg mb : Str → Option Value} {x dx l : Addr} {as : List Addr} {n : Nat} {kvs : List (Str × Str)} {v : Str} {t : Tok} {news : Ledger}
    (H : Hdr w.params news x dx l as n kvs) (hv : NameOk v) (hs : ∀ kv ∈ kvs, Short kv.1) (hsz : as.length ≤ 1000) :
    Tells prog w p loose mean mg mb 4 40 (.ref 102) [.ref x, .str v t] [] news (fun r news' => r = .none ∧ (∀ p ∈ news, p.1 ≠ l → p ∈ news') ∧ ∃ as' n', Hdr w.params news' x dx l as' n' (delOf kvs (Txt.lower v)) ∧ as'.length ≤ as.length) := by
  have hsz' : (as.map Value.ref).toArray.size ≤ sizeLine := by rw [sizeLine_eq]; simp; omega
  intro dp un gd cn cs a ccd cl outer A₀ base h₀ L m s Q E B F X N T hk hd hu hret
  obtain ⟨hx, ⟨tk, hdx⟩, hl, hp⟩ := id H
  obtain ⟨hv1, hv2, hv3, hv4⟩ := hv
  unfold Short at hv1
  walk_at "m enter"
  k_steps
  all_goals (try k_data)
  refine compT_same (fun i ys => ∃ as', ys = as'.map Value.ref ∧ Pairs news as' (delOf (kvs.take i) (Txt.lower v))) ?_ ⟨[], rfl, .nil⟩ ?_
  · intro i vv ys I oI C oC D m₂ h tk E' hi hy hv' hC hx' F' N' off ne
    obtain ⟨a, ha, rfl⟩ := ref_get hv'
    obtain ⟨kv, t₁, t₂, n₁, hkv, hm⟩ := hp.get i a ha
    obtain ⟨as', rfl, hy⟩ := hy
    have hk1 : kv.1.length ≤ 1000 := hs kv (List.mem_of_getElem? hkv)
    k_steps
    all_goals (try k_data)
    · (rename (Txt.lower _ != _) = true => hb)
      exact comp_end (by k_asm) (by k_asm) off (.inr ⟨_, .tail _ hl, rfl, _, rfl⟩) ⟨rfl, del_snoc hkv hm hb hy⟩
    · (rename (Txt.lower _ != _) = false => hb)
      exact comp_end (by k_asm) (by k_asm) off (.inr ⟨_, .tail _ hl, rfl, _, rfl⟩) ⟨rfl, del_skip hkv hb hy⟩
  · intro ys hy
    obtain ⟨as', rfl, hy⟩ := hy
    rw [show (as.map Value.ref).toArray.size = kvs.length by simp [hp.length], List.take_length] at hy
    k_steps
    all_goals (try k_data)
    (rename Fr _ _ _ _ => F₂); (rename News _ _ _ _ => N₂)
    (try dsimp only)
    have hl₂ := N₂ _ (.tail _ (.tail _ hl))
    have hD₂ := N₂ _ (.head _)
    (rename (_ ∧ LCg.Off1 _ _) => hoff)
    have hlD : l ≠ _ := off1_mem hoff.2 _ hl
    refine setItem_all (Heap.get?_push_of_some _ hl₂.1) (Heap.get?_push_of_some _ hD₂.1) hlD (Heap.IsSliceOf.new ..) ?_ (fun h'' n' hg hs'' => ?_)
    · have h1 : (delOf kvs (Txt.lower v)).length ≤ kvs.length := List.length_filter_le _ _
      have h2 := hy.length
      have h3 := hp.length
      rw [sizeLine_eq]
      simp only [List.size_toArray, List.length_map]
      omega
    have F₃ := (F₂.push _).change hs'' hl₂.2.1 hl₂.2.2
    have N₃ := news_putAt (N₂.grown fun b o e => Heap.get?_push_of_some _ e) (.tail _ (.tail _ hl)) hs'' hg
    clear F₂ N₂
    k_steps
    all_goals (try k_data)
    exact hret _ _ _ _ ⟨rfl, fun p hp hne => mem_putAt_ne hp hne, as', _, Hdr.turn N H hy, by have h1 : (delOf kvs (Txt.lower v)).length ≤ kvs.length := List.length_filter_le _ _; have h2 := hy.length; have h3 := hp.length; omega⟩ (by k_asm) (cb_drop (by k_asm) fun p hp => putAt_tail _ (putAt_tail _ hp))
end

-- NEEDS: p00_head p01_search p02_ledger p02b_loops p02c_comps p02d_setall p03_tells p04_conv p05_get p12_del
-- MACROS
local macro_rules | `(tactic| walk_at "m name") => `(tactic| first | assumption | exact ⟨by assumption, by assumption, by assumption, by assumption⟩)
local macro_rules | `(tactic| walk_at "m hdr") => `(tactic| first | assumption | exact ⟨by assumption, ⟨_, by assumption⟩, by assumption, by assumption⟩)
local macro_rules | `(tactic| walk_at "m sz") => `(tactic| first | assumption | (rw [sizeLine_eq]; simp only [List.size_toArray, List.length_map, List.length_append, List.length_cons, List.length_nil]; omega))
-- END MACROS
section
local macro_rules | `(tactic| walk_at "call ref") => `(tactic| (k_here; (with_reducible show wpAny _ _ (call (Value.ref 129) _ _) _ _ _); k_dflt (refine' Tells.use ?k1 ?k2 ?k3 ?k4 ?k5 ?kK (get_tells ?h ?v ?z) ?kd ?ku ?_; walk_at "m sides"; (case h => walk_at "m hdr"); (case v => walk_at "m name"); (case z => assumption); (intro r' n' h' tk' hP' F' N'; obtain ⟨e1', hg'⟩ := hP'; replace e1' := Eq.symm e1'; subst e1'); walk_at "m tail")))
set_option maxHeartbeats 0 in
theorem getitem_tells {prog : Program} {w : World} {p : Program} {loose : List Str} {mean : ExcName → Option Value} {mg mb : Str → Option Value} {x dx l : Addr} {as : List Addr} {n : Nat} {kvs : List (Str × Str)} {v : Str} {t : Tok} {news : Ledger}
    (H : Hdr w.params news x dx l as n kvs) (hv : NameOk v) (hs : ∀ kv ∈ kvs, Short kv.1) :
    Tells prog w p loose mean mg mb 6 60 (.ref 109) [.ref x, .str v t] [] news (fun r news' => news' = news ∧ match found kvs (Txt.lower v) with | some y => ∃ t', r = .str y t' | none => r = .none) := by
  intro dp un gd cn cs a ccd cl outer A₀ base h₀ L m s Q E B F X N T hk hd hu hret
  obtain ⟨hx, ⟨tk, hdx⟩, hl, hp⟩ := id H
  walk_at "m enter"
  k_steps
  exact hret _ _ _ _ ⟨rfl, by assumption⟩ (by k_asm) (by k_asm)
end
section
local macro_rules | `(tactic| walk_at "call ref") => `(tactic| (k_here; (with_reducible show wpAny _ _ (call (Value.ref 102) _ _) _ _ _); k_dflt (refine' Tells.use ?k1 ?k2 ?k3 ?k4 ?k5 ?kK (del_tells ?h ?v ?z ?y) ?kd ?ku ?_; walk_at "m sides"; (case h => walk_at "m hdr"); (case v => walk_at "m name"); (case z => assumption); (case y => assumption); (intro r' n' h' tk' hP' F' N'; obtain ⟨e1', hkeep', as', n', H', hle'⟩ := hP'; subst e1'; obtain ⟨hx', ⟨tk', hdx'⟩, hl', hp'⟩ := id H'); walk_at "m tail")))
local macro_rules | `(tactic| walk_at "call builtin:list.append") => `(tactic| (k_here; (with_reducible show wpAny _ _ (call (Value.builtin _) [Value.ref _, _]) _ _ _); k_dflt (refine' append_put ?k1 ?k2 ?k3 ?k4 ?_; (case k1 => k_asm); (case k2 => k_asm); (case k3 => k_mem); (case k4 => walk_at "m sz"); k_whole); intro h' F' N' hAp'; (try k_sweep)))
set_option maxHeartbeats 0 in
theorem setitem_tells {prog : Program} {w : World} {p : Program} {loose : List Str} {mean : ExcName → Option Value} {mg mb : Str → Option Value} {x dx l : Addr} {as : List Addr} {n : Nat} {kvs : List (Str × Str)} {v y : Str} {t t₂ : Tok} {news : Ledger}
    (H : Hdr w.params news x dx l as n kvs) (hv : NameOk v) (hvp : Plain v) (hy : Plain y) (hys : y.length ≤ sizeLine) (hs : ∀ kv ∈ kvs, Short kv.1) (hsz : as.length ≤ 1000) :
    Tells prog w p loose mean mg mb 6 60 (.ref 97) [.ref x, .str v t, .str y t₂] [] news (fun r news' => r = .none ∧ (∀ p ∈ news, p.1 ≠ l → p ∈ news') ∧ ∃ as' n', Hdr w.params news' x dx l as' n' (delOf kvs (Txt.lower v) ++ [(v, y)]) ∧ as'.length ≤ as.length + 1) := by
  intro dp un gd cn cs a ccd cl outer A₀ base h₀ L m s Q E B F X N T hk hd hu hret
  obtain ⟨hx, ⟨tk, hdx⟩, hl, hp⟩ := id H
  have hvz : v.length ≤ sizeLine := by have := hv.1; unfold Short at this; rw [sizeLine_eq]; omega
  walk_at "m enter"
  k_steps
  (rename (∀ p : Addr × Obj, p ∈ _ → p.2.cls ≠ _ → p.1 ≠ l) => hAp); (rename (∀ p : Addr × Obj, p ∈ news → p.1 ≠ l → p ∈ _) => hkeep); (rename Hdr _ _ _ _ _ _ _ _ => H₂); (rename (_ ≤ as.length) => hle)
  exact hret _ _ _ _ ⟨rfl, fun p hp hne => mem_putAt_ne (.tail _ (hkeep p hp hne)) hne, _, _, Hdr.push hAp (H₂.mono fun p hp => .tail _ hp) (.head _), by simp; omega⟩ (by k_asm) (by k_asm)
end

-- NEEDS: p00_head p01_search p02_ledger p02b_loops p02c_comps p02d_setall p03_tells p04_conv p05_get p12_del p13_set
-- MACROS
local macro_rules | `(tactic| walk_at "m enter more") => `(tactic| (refine wpAny_call ?_; k_dflt (refine' kp_more ?k1 ?k2 ?k3 ?k4 ?k5 ?kA ?kF ?kK ?k6 ?k7 ?k8 ?kX ?kM ?kN ?kD ?kR ?kP ?kT ?kB ?_ ?c2 ?c3 ?c4 ?c5; walk_at "m e1"; (case kX => kp_lit); (case kM => exact rfl); (case kN => exact rfl); (case kD => kp_flats); (case kR => exact rfl); (case kP => exact rfl); (case kT => exact fun _ => rfl); (case kB => exact fun _ => locs rfl); (case c5 => decide); walk_at "m ec"; k_whole; intro D' o' g' L' h' tk' l1 lo' hs' fs' FG' F' N' B' X' T'; (try k_lt l1); (try dsimp only); (try k_lift B'); (try k_fold))))
local macro_rules | `(tactic| walk_at "m told") => `(tactic| first | assumption | (refine' List.Mem.tail _ ?_; walk_at "m told"))
local macro_rules | `(tactic| walk_at "m append") => `(tactic| (k_here; (with_reducible show wpAny _ _ (call (Value.builtin _) [Value.ref _, _]) _ _ _); k_dflt (refine' append_put ?k1 ?k2 ?k3 ?k4 ?_; (case k1 => k_asm); (case k2 => k_asm); (case k3 => walk_at "m told"); (case k4 => walk_at "m sz"); k_whole); intro h' F' N' hAp'; (try k_sweep)))
-- END MACROS
section
local macro_rules | `(tactic| walk_at "call builtin:list.append") => `(tactic| walk_at "m append")
set_option maxHeartbeats 0 in
theorem add_tells {prog : Program} {w : World} {p : Program} {loose : List Str} {mean : ExcName → Option Value} {mg mb : Str → Option Value} {x dx l : Addr} {as : List Addr} {n : Nat} {kvs : List (Str × Str)} {v y : Str} {t t₂ : Tok} {news : Ledger}
    (H : Hdr w.params news x dx l as n kvs) (hv : Plain v) (hvz : v.length ≤ sizeLine) (hy : Plain y) (hys : y.length ≤ 1000) (hsz : as.length ≤ 1000) :
    Tells prog w p loose mean mg mb 6 60 (.ref 179) [.ref x, .str v t, .str y t₂] [] news (fun r news' => r = .none ∧ (∀ p ∈ news, p.1 ≠ l → p ∈ news') ∧ ∃ as' n', Hdr w.params news' x dx l as' n' (kvs ++ [(v, y)]) ∧ as'.length ≤ as.length + 1) := by
  intro dp un gd cn cs a ccd cl outer A₀ base h₀ L m s Q E B F X N T hk hd hu hret
  obtain ⟨hx, ⟨tk, hdx⟩, hl, hp⟩ := id H
  have hyz : y.length ≤ sizeLine := by rw [sizeLine_eq]; omega
  walk_at "m enter more"
  k_steps
  (rename (∀ p : Addr × Obj, p ∈ _ → p.2.cls ≠ _ → p.1 ≠ l) => hAp)
  have hj : Txt.join (Str.ofString "; ") [y] = y := rfl
  rw [hj] at hAp
  exact hret _ _ _ _ ⟨rfl, fun p hp hne => mem_putAt_ne (by walk_at "m told") hne, _, _, Hdr.push hAp (H.mono fun p hp => by walk_at "m told") (.head _), by simp⟩ (by k_asm) (by k_asm)
end

-- NEEDS: p00_head p01_search p02_ledger p02b_loops p02c_comps p02d_setall p03_tells
/-- the pairs asked, each a tuple of the ledger -/
inductive Asks (news : Ledger) : List Value → List (Int × Int) → Prop
  | nil : Asks news [] []
  | cons {a : Addr} {vs : List Value} {p : Int × Int} {ps : List (Int × Int)} (t₁ t₂ : Tok) (n : Nat) (h : (a, tupO #[.int p.1 t₁, .int p.2 t₂] n) ∈ news) (r : Asks news vs ps) : Asks news (.ref a :: vs) (p :: ps)
theorem Asks.mono {news news' : Ledger} (hs : ∀ p ∈ news, p.2.cls = .type "tuple" → p ∈ news') {vs : List Value} {ps : List (Int × Int)} (h : Asks news vs ps) : Asks news' vs ps := by
  induction h with
  | nil => exact .nil
  | cons t₁ t₂ n h _ ih => exact .cons t₁ t₂ n (hs _ h rfl) ih
theorem Asks.append {news : Ledger} {vs ws : List Value} {ps qs : List (Int × Int)} (h : Asks news vs ps) (h' : Asks news ws qs) : Asks news (vs ++ ws) (ps ++ qs) := by
  induction h with
  | nil => exact h'
  | cons t₁ t₂ n h _ ih => exact .cons t₁ t₂ n h ih
theorem Asks.length {news : Ledger} {vs : List Value} {ps : List (Int × Int)} (h : Asks news vs ps) : vs.length = ps.length := by
  induction h with
  | nil => rfl
  | cons _ _ _ _ _ ih => simp [ih]
theorem asked_item {ws : List Value} {zs : List Int} {i : Nat} {v : Value} (hi : IntsAre ws zs) (hv : ws.toArray[i]? = some v) : ∃ z t, zs[i]? = some z ∧ v = .int z t := by
  obtain ⟨k, t, e, hk⟩ := IntsAre.at hi i v (by simpa using hv)
  exact ⟨k, t, hk, e⟩
noncomputable def askOf (x : Int) : Int × Int := (1 + Int.fmod x 5, Int.fmod (Int.fdiv x 5) 2)
noncomputable def askedOf (ns : List Int) : List (Int × Int) := (ns.take 5).map askOf ++ [(3, 1), (1, 0), (4, 1), (1, 1), (5, 0)]
theorem asked_all {ws : List Value} {zs : List Int} {news : Ledger} {ys : List Value} (hi : IntsAre ws zs) (hy : Asks news ys ((zs.take ws.toArray.size).map askOf)) : Asks news ys (zs.map askOf) := by
  have e : ws.toArray.size = zs.length := by rw [List.size_toArray, hi.length]
  rw [e, List.take_length] at hy
  exact hy
theorem asked_end {news : Ledger} {ys : List Value} {ns : List Int} {a b c d e : Addr} {ta tb tc td te ta' tb' tc' td' te' : Tok} (hy : Asks news ys ((ns.take 5).map askOf))
    (ha : (a, tupO #[.int 3 ta, .int 1 ta'] 0) ∈ news) (hb : (b, tupO #[.int 1 tb, .int 0 tb'] 0) ∈ news) (hc : (c, tupO #[.int 4 tc, .int 1 tc'] 0) ∈ news) (hd : (d, tupO #[.int 1 td, .int 1 td'] 0) ∈ news) (he : (e, tupO #[.int 5 te, .int 0 te'] 0) ∈ news) :
    Asks news (ys ++ [.ref a, .ref b, .ref c, .ref d, .ref e]) (askedOf ns) :=
  hy.append (.cons (p := (3, 1)) _ _ _ ha (.cons (p := (1, 0)) _ _ _ hb (.cons (p := (4, 1)) _ _ _ hc (.cons (p := (1, 1)) _ _ _ hd (.cons (p := (5, 0)) _ _ _ he .nil)))))
section
theorem add_listsL {prog : Program} {w : World} {A : Around} {E : Value → Shared → Prop} {s : Shared} {h₀ : Heap} {L : Addr} {m : Str → Option Value} {news : Ledger} {l b : Addr} {vs ws : List Value} {Q : Value → Shared → Prop} (F : Fr h₀ L s.heap m) (N : News h₀ L s.heap news) (hl : s.heap.IsList l vs.toArray) (hb : s.heap.IsList b ws.toArray) (hsz : vs.length + ws.length ≤ sizeLine)
    (h : ∀ D h', Fr h₀ L h' m → News h₀ L h' ((D, listOf (vs ++ ws).toArray 0) :: news) → (∀ p ∈ news, p.1 < D) → Q (.ref D) { s with heap := h' }) : wpAny (model prog w) A (binaryOp .Add (.ref l) (.ref b)) Q E s :=
  add_lists (hsz := hsz) F N hl hb fun h' F' N' => h _ h' F' N' fun p hp => Heap.lt_size (N p hp).1
-- MACROS
local macro_rules | `(tactic| walk_at "m told") => `(tactic| first | assumption | (refine' List.Mem.tail _ ?_; walk_at "m told"))
local macro_rules | `(tactic| walk_at "m here") => `(tactic| first | exact List.Mem.head _ | (refine' List.Mem.tail _ ?_; walk_at "m here"))
local macro_rules | `(tactic| walk_at "m add lists") => `(tactic| (k_here; k_dflt (refine' add_listsL (hsz := ?hsz) ?F ?N ?a ?b ?_; (case F => k_asm); (case N => k_asm); (case a => exact News.isList (by k_asm) (by k_mem)); (case b => exact News.isList (by k_asm) (by k_mem)); (case hsz => first | assumption | (rw [sizeLine_eq]; simp only [List.length_cons, List.length_nil]; omega)); k_whole); intro D' h' F' N' l1'))
-- END MACROS
local macro_rules | `(tactic| walk_at "binaryOp Add ref ref") => `(tactic| walk_at "m add lists")
theorem asked_perm {h₀ h : Heap} {L : Addr} {a b c d : Addr × Obj} {news : Ledger} (N : News h₀ L h (a :: b :: c :: d :: news)) : News h₀ L h (b :: c :: d :: a :: news) := fun p hp => N p (by
  simp only [List.mem_cons] at hp ⊢
  rcases hp with h | h | h | h | h
  · exact .inr (.inl h)
  · exact .inr (.inr (.inl h))
  · exact .inr (.inr (.inr (.inl h)))
  · exact .inl h
  · exact .inr (.inr (.inr (.inr h))))
theorem asked_snoc {news : Ledger} {ys : List Value} {zs : List Int} {i : Nat} {z : Int} {T : Addr} {t₁ t₂ : Tok} {n : Nat} (hz : zs[i]? = some z) (hy : Asks news ys ((zs.take i).map askOf)) :
    Asks ((T, tupO #[.int (1 + Int.fmod z 5) t₁, .int (Int.fmod (Int.fdiv z 5) 2) t₂] n) :: news) (ys ++ [.ref T]) ((zs.take (i + 1)).map askOf) := by
  rw [List.take_add_one, hz, Option.toList_some, List.map_append]
  exact (hy.mono fun p hp _ => .tail _ hp).append (.cons (p := askOf z) t₁ t₂ n (.head _) .nil)
theorem asked_src {h₀ : Heap} {ax : Addr} {its : Array Value} {a : Addr × Obj} {news : Ledger} (h : LCg.SrcAt h₀ ax its news) : LCg.SrcAt h₀ ax its (a :: news) := h.imp id fun ⟨o, hm, r⟩ => ⟨o, .tail _ hm, r⟩
set_option maxHeartbeats 0 in
theorem asked_tells {prog : Program} {w : World} {p : Program} {loose : List Str} {mean : ExcName → Option Value} {mg mb : Str → Option Value} {l : Addr} {vs : List Value} {ns : List Int} {news : Ledger} (hi : IntsAre vs ns) (hlen : ns.length ≤ 63) 
    (hsmall : True) :
    ∀ (dp un : Nat) (gd : Option (List Code)) (cn : Str) (cs : Scope) (a : Addr) (ccd : Value) (cl : List (Str × Addr)) (outer : List Env) (A₀ : Around) (base h₀ : Heap) (L : Addr) (m : Str → Option Value) (s : Shared) (Q E : Value → Shared → Prop),
    Below A₀ base outer h₀ → Fr h₀ L s.heap m → (Mine.hd.heap_1 w.params).In h₀ → News h₀ L s.heap news → Top p loose mean mg mb h₀ → cs.kind = .function → dp + 4 < recursionLimit → un + 40 < cLine → base.IsList l vs.toArray →
    (∀ r news' h' tk', (∃ D ws, r = .ref D ∧ (D, listOf ws.toArray 0) ∈ news' ∧ (∀ p ∈ news, p ∈ news') ∧ Asks news' ws (askedOf ns) ∧ ∀ p ∈ news, p.1 ≠ D) → Fr h₀ L h' m → News h₀ L h' news' → Q r { s with heap := h', toks := tk' }) →
    wpAny (model prog w) (ktrTop dp un gd cn cs L a ccd cl outer) (call (.ref 240) [.ref l] []) Q E s := by
  intro dp un gd cn cs a ccd cl outer A₀ base h₀ L m s Q E B F X N T hk hd hu hbase hret
  walk_at "m enter"
  k_steps
  all_goals (try k_data)
  refine comp_grow (fun i ys n' => Asks n' ys (((ns.take 5).take i).map askOf)) ?_ .nil ?_
  · intro i v ys n' I oI C oC D m₂ h tk E' hi hsub hy hv hC hx F' N' off ne
    obtain ⟨z, t, hz, hzv⟩ := asked_item (by assumption) hv
    subst hzv
    k_steps
    all_goals (try k_data)
    (rename (_ ∧ _ ∧ _ ∧ _) => hlt); (rename (∀ p : Addr × Obj, p ∈ _ → p.1 < _) => hlt9); (rename News _ _ _ _ => N₂)
    exact comp_end (by k_asm) (asked_perm N₂) ⟨⟨Nat.ne_of_gt hlt.1, Nat.ne_of_gt hlt.2.1, Nat.ne_of_gt hlt.2.2.1⟩, off⟩ (.inr ⟨_, .tail _ (hsub _ (.head _)), rfl, _, rfl⟩) ⟨fun p hp => .tail _ (hsub p hp), asked_snoc hz hy⟩
  · intro ys n' hsub hy
    have hy' := asked_all (by assumption) hy
    have hyl : ys.length ≤ 5 := by rw [hy.length]; simp; omega
    k_steps
    all_goals (try k_data)
    (rename (∀ p : Addr × Obj, p ∈ _ → p.1 < _) => hlt)
    refine hret _ _ _ _ ⟨_, _, rfl, .head _, fun p hp => ?_, ?_, fun p hp => Nat.ne_of_lt (hlt p ?_)⟩ (by k_asm) (by k_asm)
    · have := hsub p (.tail _ hp)
      walk_at "m told"
    · exact asked_end (hy'.mono fun p hp _ => by walk_at "m told") (by walk_at "m here") (by walk_at "m here") (by walk_at "m here") (by walk_at "m here") (by walk_at "m here")
    · have := hsub p (.tail _ hp)
      walk_at "m told"
end

-- NEEDS: p00_head p01_search p02_ledger p02d_setall p03_tells p05_get p06_name
/-- the free parts: sizes and words -/
noncomputable def lookup (fs : List (Nat × Str)) (k : Nat) : Option Str := (fs.find? fun p => p.1 == k).map (·.2)
abbrev fr : Str := Str.ofString "free-"
noncomputable def freeName (k : Nat) : Str := nameOf fr (k : Int) 0
theorem lower_free : ∀ k < 6, Txt.lower (nameOf fr (k : Nat) 0) = freeName k ∧ Txt.lower (nameOf fr (k : Nat) 1) = freeName k := by decide +kernel
theorem freeName_inj : ∀ k < 6, ∀ j < 6, freeName k = freeName j → k = j := by decide +kernel
noncomputable def okB (x : Str) : Bool := x.length ≤ 100 && (Txt.lower x).length ≤ 100 && x.cps.all (fun c => 32 ≤ c && c < 127) && (Txt.lower x).cps.all (fun c => 32 ≤ c && c < 127)
theorem plain_of {x : Str} (h : (x.cps.all (fun c => 32 ≤ c && c < 127)) = true) : Plain x := by
  intro c hc
  have := Array.all_eq_true'.mp h c hc
  simpa using this
theorem okB_name {x : Str} (h : okB x = true) : NameOk x ∧ Plain x := by
  simp only [okB, Bool.and_eq_true, decide_eq_true_eq] at h
  obtain ⟨⟨⟨h1, h2⟩, h3⟩, h4⟩ := h
  unfold NameOk Short
  refine ⟨⟨?_, plain_of h4, ?_, ?_⟩, plain_of h3⟩
  · omega
  · rw [sizeLine_eq]; omega
  · omega
theorem ok_free0 : ∀ k < 6, okB (nameOf fr (k : Nat) 0) = true ∧ okB (nameOf fr (k : Nat) 1) = true ∧ (fr ++ Str.ofString (toString ((k : Nat) : Int))).length ≤ 100 := by decide +kernel
theorem ok_free {k : Nat} {o : Int} (hk : k ≤ 5) (ho : o = 0 ∨ o = 1) : NameOk (nameOf fr (k : Nat) o) ∧ Plain (nameOf fr (k : Nat) o) ∧ Txt.lower (nameOf fr (k : Nat) o) = freeName k := by
  have h1 := ok_free0 k (by omega)
  have h2 := lower_free k (by omega)
  rcases ho with rfl | rfl
  · exact ⟨(okB_name h1.1).1, (okB_name h1.1).2, h2.1⟩
  · exact ⟨(okB_name h1.2.1).1, (okB_name h1.2.1).2, h2.2⟩
structure FreeIs (kvs : List (Str × Str)) (fs : List (Nat × Str)) : Prop where
  eq : kvs.map (fun kv => (Txt.lower kv.1, kv.2)) = fs.map (fun p => (freeName p.1, p.2))
  short : ∀ kv ∈ kvs, Short kv.1
  le : ∀ p ∈ fs, p.1 ≤ 5
theorem FreeIs.length {kvs : List (Str × Str)} {fs : List (Nat × Str)} (H : FreeIs kvs fs) : kvs.length = fs.length := by
  simpa using congrArg List.length H.eq
theorem FreeIs.found {kvs : List (Str × Str)} {fs : List (Nat × Str)} (H : FreeIs kvs fs) {k : Nat} (hk : k ≤ 5) : Mine.found kvs (freeName k) = lookup fs k := by
  obtain ⟨e, hs, hle⟩ := H
  clear hs
  induction kvs generalizing fs with
  | nil =>
    cases fs with
    | nil => rfl
    | cons p r => cases e
  | cons kv r ih =>
    cases fs with
    | nil => cases e
    | cons p fs =>
      simp only [List.map_cons, List.cons.injEq, Prod.mk.injEq] at e
      obtain ⟨⟨e1, e2⟩, e3⟩ := e
      rw [found_cons, e1]
      have hp := hle p (.head _)
      unfold lookup
      rw [List.find?_cons]
      by_cases h : p.1 = k
      · subst h
        simp [e2]
      · rw [if_neg fun h' => h (freeName_inj _ (by omega) _ (by omega) h'), show (p.1 == k) = false by simpa using h]
        exact ih e3 fun q hq => hle q (.tail _ hq)
noncomputable def dropK (fs : List (Nat × Str)) (k : Nat) : List (Nat × Str) := fs.filter fun p => p.1 != k
theorem FreeIs.del {kvs : List (Str × Str)} {fs : List (Nat × Str)} (H : FreeIs kvs fs) {k : Nat} (hk : k ≤ 5) : FreeIs (delOf kvs (freeName k)) (dropK fs k) := by
  obtain ⟨e, hs, hle⟩ := H
  refine ⟨?_, fun kv h => hs kv ((List.mem_filter.mp h).1), fun p h => hle p ((List.mem_filter.mp h).1)⟩
  clear hs
  induction kvs generalizing fs with
  | nil =>
    cases fs with
    | nil => rfl
    | cons p r => cases e
  | cons kv r ih =>
    cases fs with
    | nil => cases e
    | cons p fs =>
      simp only [List.map_cons, List.cons.injEq, Prod.mk.injEq] at e
      obtain ⟨⟨e1, e2⟩, e3⟩ := e
      have hp := hle p (.head _)
      have ih' := ih e3 fun q hq => hle q (.tail _ hq)
      unfold delOf dropK at ih' ⊢
      rw [List.filter_cons, List.filter_cons, e1]
      by_cases h : p.1 = k
      · subst h
        simpa using ih'
      · have h1 : (freeName p.1 != freeName k) = true := by simpa using fun h' => h (freeName_inj _ (by omega) _ (by omega) h')
        have h2 : (p.1 != k) = true := by simpa using h
        rw [h1, h2, if_pos rfl, if_pos rfl, List.map_cons, List.map_cons, ih', e1, e2]
theorem FreeIs.put {kvs : List (Str × Str)} {fs : List (Nat × Str)} (H : FreeIs kvs fs) {k : Nat} {o : Int} {y : Str} (hk : k ≤ 5) (ho : o = 0 ∨ o = 1) : FreeIs (delOf kvs (freeName k) ++ [(nameOf fr (k : Nat) o, y)]) (dropK fs k ++ [(k, y)]) := by
  obtain ⟨e, hs, hle⟩ := H.del hk
  refine ⟨?_, ?_, ?_⟩
  · rw [List.map_append, List.map_append, e]
    simp [(ok_free hk ho).2.2]
  · intro kv h
    rcases List.mem_append.mp h with h | h
    · exact hs kv h
    · rw [List.mem_singleton.mp h]
      exact (ok_free hk ho).1.1
  · intro p h
    rcases List.mem_append.mp h with h | h
    · exact hle p h
    · rw [List.mem_singleton.mp h]
      exact hk
/-- the largest size below n that is free -/
noncomputable def haveOf (fs : List (Nat × Str)) : Nat → Option Nat
  | 0 => none
  | n + 1 => if (lookup fs n).isSome then some n else haveOf fs n
/-- halving: n times from size h on -/
noncomputable def fillUp : Nat → Nat → List (Nat × Str) → Str → Str × List (Nat × Str)
  | 0, _, fs, w => (w, fs)
  | n + 1, h, fs, w => fillUp n (h + 1) (dropK fs (h + 1) ++ [(h + 1, w ++ Str.ofString ")")]) (w ++ Str.ofString "(")
noncomputable def servedOf (fs : List (Nat × Str)) (size : Nat) : Option (Str × List (Nat × Str)) :=
  match haveOf fs (size + 1) with
  | none => none
  | some h => match lookup fs h with
    | none => none
    | some w => some (fillUp (size - h) h (dropK fs h) w)
theorem haveOf_lookup {fs : List (Nat × Str)} : ∀ {n h : Nat}, haveOf fs n = some h → h < n ∧ ∃ w, lookup fs h = some w
  | 0, _, e => nomatch e
  | n + 1, h, e => by
    unfold haveOf at e
    split at e
    · rename_i hs
      obtain rfl := Option.some.inj e
      exact ⟨Nat.lt_succ_self _, Option.isSome_iff_exists.mp hs⟩
    · obtain ⟨h1, h2⟩ := haveOf_lookup e
      exact ⟨Nat.lt_succ_of_lt h1, h2⟩

-- NEEDS: p00_head p01_search p02_ledger p02b_loops p02c_comps p02d_setall p03_tells p04_conv p05_get p06_name p12_del p13_set p15a_free
theorem name_free {prog : Program} {w : World} {p : Program} {loose : List Str} {mean : ExcName → Option Value} {mg mb : Str → Option Value} {k : Nat} {odd : Int} {t₁ t₂ t₃ : Tok} {news : Ledger} (hk : k ≤ 5) :
    Tells prog w p loose mean mg mb 4 40 (.ref 247) [.str fr t₁, .int (k : Nat) t₂, .int odd t₃] [] news (fun r news' => news' = news ∧ ∃ t', r = .str (nameOf fr (k : Nat) odd) t') :=
  name_tells (by decide +kernel) (by omega) (by omega) (Nat.le_trans (ok_free0 k (by omega)).2.2 (by omega))
theorem name_free1 {prog : Program} {w : World} {p : Program} {loose : List Str} {mean : ExcName → Option Value} {mg mb : Str → Option Value} {k : Nat} {odd : Int} {t₁ t₂ t₃ : Tok} {news : Ledger} (hk : k + 1 ≤ 5) :
    Tells prog w p loose mean mg mb 4 40 (.ref 247) [.str fr t₁, .int ((k : Nat) + 1 : Int) t₂, .int odd t₃] [] news (fun r news' => news' = news ∧ ∃ t', r = .str (nameOf fr ((k + 1 : Nat) : Int) odd) t') := name_free hk
theorem get_hit {prog : Program} {w : World} {p : Program} {loose : List Str} {mean : ExcName → Option Value} {mg mb : Str → Option Value} {x dx l : Addr} {as : List Addr} {n : Nat} {kvs : List (Str × Str)} {fs : List (Nat × Str)} {k : Nat} {o : Int} {y : Str} {t : Tok} {news : Ledger}
    (H : Hdr w.params news x dx l as n kvs) (hf : FreeIs kvs fs) (hk : k ≤ 5) (ho : o = 0 ∨ o = 1) (hl : lookup fs k = some y) :
    Tells prog w p loose mean mg mb 4 40 (.ref 129) [.ref x, .str (nameOf fr (k : Nat) o) t] [] news (fun r news' => news' = news ∧ ∃ t', r = .str y t') := by
  have h := ok_free hk ho
  have e : found kvs (Txt.lower (nameOf fr (k : Nat) o)) = some y := by rw [h.2.2, hf.found hk, hl]
  have c := get_tells (prog := prog) (w := w) (p := p) (loose := loose) (mean := mean) (mg := mg) (mb := mb) (t := t) H h.1 hf.short
  rw [e] at c
  exact c
theorem get_miss {prog : Program} {w : World} {p : Program} {loose : List Str} {mean : ExcName → Option Value} {mg mb : Str → Option Value} {x dx l : Addr} {as : List Addr} {n : Nat} {kvs : List (Str × Str)} {fs : List (Nat × Str)} {k : Nat} {o : Int} {t : Tok} {news : Ledger}
    (H : Hdr w.params news x dx l as n kvs) (hf : FreeIs kvs fs) (hk : k ≤ 5) (ho : o = 0 ∨ o = 1) (hl : lookup fs k = none) :
    Tells prog w p loose mean mg mb 4 40 (.ref 129) [.ref x, .str (nameOf fr (k : Nat) o) t] [] news (fun r news' => news' = news ∧ r = .none) := by
  have h := ok_free hk ho
  have e : found kvs (Txt.lower (nameOf fr (k : Nat) o)) = none := by rw [h.2.2, hf.found hk, hl]
  have c := get_tells (prog := prog) (w := w) (p := p) (loose := loose) (mean := mean) (mg := mg) (mb := mb) (t := t) H h.1 hf.short
  rw [e] at c
  exact c
theorem getitem_hit {prog : Program} {w : World} {p : Program} {loose : List Str} {mean : ExcName → Option Value} {mg mb : Str → Option Value} {x dx l : Addr} {as : List Addr} {n : Nat} {kvs : List (Str × Str)} {fs : List (Nat × Str)} {k : Nat} {o : Int} {y : Str} {t : Tok} {news : Ledger}
    (H : Hdr w.params news x dx l as n kvs) (hf : FreeIs kvs fs) (hk : k ≤ 5) (ho : o = 0 ∨ o = 1) (hl : lookup fs k = some y) :
    Tells prog w p loose mean mg mb 6 60 (.ref 109) [.ref x, .str (nameOf fr (k : Nat) o) t] [] news (fun r news' => news' = news ∧ ∃ t', r = .str y t') := by
  have h := ok_free hk ho
  have e : found kvs (Txt.lower (nameOf fr (k : Nat) o)) = some y := by rw [h.2.2, hf.found hk, hl]
  have c := getitem_tells (prog := prog) (w := w) (p := p) (loose := loose) (mean := mean) (mg := mg) (mb := mb) (t := t) H h.1 hf.short
  rw [e] at c
  exact c
theorem del_free {prog : Program} {w : World} {p : Program} {loose : List Str} {mean : ExcName → Option Value} {mg mb : Str → Option Value} {x dx l : Addr} {as : List Addr} {n : Nat} {kvs : List (Str × Str)} {fs : List (Nat × Str)} {k : Nat} {o : Int} {t : Tok} {news : Ledger}
    (H : Hdr w.params news x dx l as n kvs) (hf : FreeIs kvs fs) (hk : k ≤ 5) (ho : o = 0 ∨ o = 1) (hz : fs.length ≤ 900) :
    Tells prog w p loose mean mg mb 4 40 (.ref 102) [.ref x, .str (nameOf fr (k : Nat) o) t] [] news (fun r news' => r = .none ∧ (∀ p ∈ news, p.1 ≠ l → p ∈ news') ∧ ∃ as' n' kvs', Hdr w.params news' x dx l as' n' kvs' ∧ FreeIs kvs' (dropK fs k)) := by
  have h := ok_free hk ho
  have c := del_tells (prog := prog) (w := w) (p := p) (loose := loose) (mean := mean) (mg := mg) (mb := mb) (t := t) H h.1 hf.short (by rw [H.pairs.length, hf.length]; omega)
  intro dp un gd cn cs a ccd cl outer A₀ base h₀ L m s Q E B F X N T hk' hd hu hret
  refine c dp un gd cn cs a ccd cl outer A₀ base h₀ L m s Q E B F X N T hk' hd hu fun r nw h' tk' hp => hret r nw h' tk' ?_
  obtain ⟨h1, h2, as', n', h3, _⟩ := hp
  rw [h.2.2] at h3
  exact ⟨h1, h2, as', n', _, h3, hf.del hk⟩
theorem set_free {prog : Program} {w : World} {p : Program} {loose : List Str} {mean : ExcName → Option Value} {mg mb : Str → Option Value} {x dx l : Addr} {as : List Addr} {n : Nat} {kvs : List (Str × Str)} {fs : List (Nat × Str)} {k : Nat} {o : Int} {y : Str} {t t₂ : Tok} {news : Ledger}
    (H : Hdr w.params news x dx l as n kvs) (hf : FreeIs kvs fs) (hk : k ≤ 5) (ho : o = 0 ∨ o = 1) (hy : Plain y) (hyz : y.length ≤ 1000) (hz : fs.length ≤ 900) :
    Tells prog w p loose mean mg mb 6 60 (.ref 97) [.ref x, .str (nameOf fr (k : Nat) o) t, .str y t₂] [] news (fun r news' => r = .none ∧ (∀ p ∈ news, p.1 ≠ l → p ∈ news') ∧ ∃ as' n' kvs', Hdr w.params news' x dx l as' n' kvs' ∧ FreeIs kvs' (dropK fs k ++ [(k, y)])) := by
  have h := ok_free hk ho
  have c := setitem_tells (prog := prog) (w := w) (p := p) (loose := loose) (mean := mean) (mg := mg) (mb := mb) (t := t) (t₂ := t₂) H h.1 h.2.1 hy (by rw [sizeLine_eq]; omega) hf.short (by rw [H.pairs.length, hf.length]; omega)
  intro dp un gd cn cs a ccd cl outer A₀ base h₀ L m s Q E B F X N T hk' hd hu hret
  refine c dp un gd cn cs a ccd cl outer A₀ base h₀ L m s Q E B F X N T hk' hd hu fun r nw h' tk' hp => hret r nw h' tk' ?_
  obtain ⟨h1, h2, as', n', h3, _⟩ := hp
  rw [h.2.2] at h3
  exact ⟨h1, h2, as', n', _, h3, hf.put hk ho⟩
theorem lookup_mem {fs : List (Nat × Str)} {k : Nat} {y : Str} (h : lookup fs k = some y) : (k, y) ∈ fs := by
  unfold lookup at h
  obtain ⟨p, hp, e⟩ := Option.map_eq_some_iff.mp h
  have h1 := List.mem_of_find?_eq_some hp
  have h2 := List.find?_some hp
  have h3 : p.1 = k := by simpa using h2
  rw [← h3, ← e]
  exact h1
theorem plain_push {y : Str} {z : Str} (h : Plain y) {c : Nat} (hz : z.cps = #[c]) (hc : 32 ≤ c ∧ c < 127) : Plain (y ++ z) := by
  intro d hd
  have e : (y ++ z).cps = y.cps ++ z.cps := rfl
  rw [e, hz] at hd
  rcases Array.mem_append.mp hd with hd | hd
  · exact h d hd
  · simp at hd
    rw [hd]
    exact hc
theorem while_mine {prog : Program} {w : World} {A : Around} {E : Value → Shared → Prop} {Q : Flow → Shared → Prop} {s : Shared} {env : Env} {h₀ : Heap} {L : Addr} {test : Expr} {body : List Stmt} {pos : Pos} {m : Str → Option Value} {news : List (Addr × Obj)} (J : Nat → (Str → Option Value) → List (Addr × Obj) → Prop) {n₀ : Nat}
    (F : Fr h₀ L s.heap m) (N : News h₀ L s.heap news) (hE : PassesOwn (model prog w) A env E) (hJ : J n₀ m news)
    (turn : ∀ n m₁ news₁ h₁ tk₁, Fr h₀ L h₁ m₁ → News h₀ L h₁ news₁ → J n m₁ news₁ →
      wpAny (model prog w) A (isTrue test env (eval test env)) (fun b s₂ =>
        WhlIf b (wpAny (model prog w) A (execs body env) (WhileStep h₀ L s J n) E s₂) (Q .next s₂)) E { s with heap := h₁, toks := tk₁ }) :
    wpAny (model prog w) A (exec (.While test body [] pos) env) Q E s :=
  While_inv J F N hJ (fun n m₁ news₁ h₁ tk₁ F₁ N₁ J₁ => wpAny_mono (turn n m₁ news₁ h₁ tk₁ F₁ N₁ J₁) (fun b s₂ h₂ => by cases b <;> simpa [WhlIf] using h₂) fun _ _ z => z) hE
section
local macro_rules | `(tactic| walk_at "m hide") => `(tactic| ((intro r' n' h' tk' hP' F' N'; obtain ⟨e1', hkeep', as', n', kvs', H', hf'⟩ := hP'; subst e1'; obtain ⟨hx', ⟨tk', hdx'⟩, hl', hp'⟩ := id H'); (try k_sweep); (try dsimp only); (try k_fold)))
local macro_rules | `(tactic| walk_at "exec While BoolOp") => `(tactic| (k_here; refine Hold.out ?_))
local macro_rules | `(tactic| walk_at "exec While Compare") => `(tactic| (k_here; refine Hold.out ?_))
local macro_rules | `(tactic| walk_at "exec While") => `(tactic| (k_here; refine Hold.out ?_))
local macro_rules | `(tactic| walk_at "loadName") => `(tactic| walk_at "m load")
local macro_rules | `(tactic| walk_at "WhlIf") => `(tactic| (k_here; k_dflt (first | (refine WhlIf.yes (decide_eq_true (by omega)) ?_) | (refine WhlIf.no (decide_eq_false (by omega)) ?_))))
local macro_rules | `(tactic| walk_at "m odd") => `(tactic| first | assumption | omega)
local macro_rules | `(tactic| walk_at "call ref") => `(tactic| (k_here; (with_reducible show wpAny _ _ (call (Value.ref 247) _ _) _ _ _); k_dflt (refine' Tells.use ?k1 ?k2 ?k3 ?k4 ?k5 ?kK (name_free1 ?h) ?kd ?ku ?_; (case h => first | assumption | omega); walk_at "m sides"; walk_at "m back")))
local macro_rules | `(tactic| walk_at "call ref") => `(tactic| (k_here; (with_reducible show wpAny _ _ (call (Value.ref 247) _ _) _ _ _); k_dflt (refine' Tells.use ?k1 ?k2 ?k3 ?k4 ?k5 ?kK (name_free ?h) ?kd ?ku ?_; (case h => first | assumption | omega); walk_at "m sides"; walk_at "m back")))
local macro_rules | `(tactic| walk_at "call ref") => `(tactic| (k_here; (with_reducible show wpAny _ _ (call (Value.ref 129) _ _) _ _ _); k_dflt (first
  | (refine' Tells.use ?k1 ?k2 ?k3 ?k4 ?k5 ?kK (get_hit ?h ?f ?b ?o ?l) ?kd ?ku ?_; (case l => assumption); walk_at "m sides"; (case h => walk_at "m hdr"); (case f => assumption); (case b => first | assumption | omega); (case o => walk_at "m odd"); (intro r' n' h' tk' hP' F' N'; obtain ⟨e1', ⟨t', e2'⟩⟩ := hP'; replace e1' := Eq.symm e1'; subst e1'; subst e2'))
  | (refine' Tells.use ?k1 ?k2 ?k3 ?k4 ?k5 ?kK (get_miss ?h ?f ?b ?o ?l) ?kd ?ku ?_; (case l => assumption); walk_at "m sides"; (case h => walk_at "m hdr"); (case f => assumption); (case b => first | assumption | omega); (case o => walk_at "m odd"); (intro r' n' h' tk' hP' F' N'; obtain ⟨e1', e2'⟩ := hP'; replace e1' := Eq.symm e1'; subst e1'; subst e2'))); (try k_sweep); (try dsimp only); (try k_fold)))
local macro_rules | `(tactic| walk_at "call ref") => `(tactic| (k_here; (with_reducible show wpAny _ _ (call (Value.ref 109) _ _) _ _ _); k_dflt (refine' Tells.use ?k1 ?k2 ?k3 ?k4 ?k5 ?kK (getitem_hit ?h ?f ?b ?o ?l) ?kd ?ku ?_; (case l => assumption); walk_at "m sides"; (case h => walk_at "m hdr"); (case f => assumption); (case b => first | assumption | omega); (case o => walk_at "m odd"); walk_at "m back")))
local macro_rules | `(tactic| walk_at "call ref") => `(tactic| (k_here; (with_reducible show wpAny _ _ (call (Value.ref 102) _ _) _ _ _); k_dflt (refine' Tells.use ?k1 ?k2 ?k3 ?k4 ?k5 ?kK (del_free ?h ?f ?b ?o ?z) ?kd ?ku ?_; walk_at "m sides"; (case h => walk_at "m hdr"); (case f => assumption); (case b => first | assumption | omega); (case o => walk_at "m odd"); (case z => assumption); walk_at "m hide")))
local macro_rules | `(tactic| walk_at "call ref") => `(tactic| (k_here; (with_reducible show wpAny _ _ (call (Value.ref 97) _ _) _ _ _); k_dflt (refine' Tells.use ?k1 ?k2 ?k3 ?k4 ?k5 ?kK (set_free ?h ?f ?b ?o ?p ?y ?z) ?kd ?ku ?_; walk_at "m sides"; (case h => walk_at "m hdr"); (case f => assumption); (case b => first | assumption | omega); (case o => walk_at "m odd"); (case p => assumption); (case y => assumption); (case z => assumption); walk_at "m hide")))
set_option maxHeartbeats 0 in
theorem served_tells {prog : Program} {w : World} {p : Program} {loose : List Str} {mean : ExcName → Option Value} {mg mb : Str → Option Value} {x dx l : Addr} {as : List Addr} {n : Nat} {kvs : List (Str × Str)} {fs : List (Nat × Str)} {size : Nat} {odd : Int} {t₁ t₂ : Tok} {news : Ledger}
    (H : Hdr w.params news x dx l as n kvs) (hf : FreeIs kvs fs) (hz : fs.length ≤ 800) (hs : size ≤ 5) (ho : odd = 0 ∨ odd = 1) (hw : ∀ p ∈ fs, Plain p.2 ∧ p.2.length ≤ 900) :
    Tells prog w p loose mean mg mb 8 90 (.ref 254) [.ref x, .int (size : Nat) t₁, .int odd t₂] [] news (fun r news' => match servedOf fs size with
      | none => r = .none ∧ news' = news
      | some q => (∃ t, r = .str q.1 t) ∧ (∀ p ∈ news, p.1 ≠ l → p ∈ news') ∧ ∃ as' n' kvs', Hdr w.params news' x dx l as' n' kvs' ∧ FreeIs kvs' q.2) := by
  intro dp un gd cn cs a ccd cl outer A₀ base h₀ L m s Q E B F X N T hk hd hu hret
  obtain ⟨hx, ⟨tk, hdx⟩, hl, hp⟩ := id H
  walk_at "m enter"
  k_steps
  refine comp_start ?_
  (rename Fr _ _ _ _ => F₂); (rename News _ _ _ _ => N₂)
  have e0 : ((size : Nat) : Int) = ((size + 1 : Nat) : Int) - 1 := by omega
  with_unfolding_all refine while_mine (n₀ := size + 1) (fun j m' n' => n' = news ∧ j ≤ size + 1 ∧ haveOf fs j = haveOf fs (size + 1) ∧ (∃ t', m' (Str.ofString "have") = some (.int ((j : Nat) - 1 : Int) t')) ∧ m' (Str.ofString "free") = some (.ref x) ∧ (∃ t', m' (Str.ofString "size") = some (.int (size : Nat) t')) ∧ (∃ t', m' (Str.ofString "odd") = some (.int odd t'))) F₂ N₂ (by passes_own) ⟨rfl, Nat.le_refl _, rfl, ⟨_, by rw [← e0]; rfl⟩, rfl, ⟨_, rfl⟩, ⟨_, rfl⟩⟩ ?_
  clear F₂ N₂
  intro j m' n' h' tk' F₂ N₂ hJ
  obtain ⟨e, hj, hv, ⟨t3, hm1⟩, hm2, ⟨t4, hm3⟩, ⟨t5, hm4⟩⟩ := hJ
  subst n'
  have hz9 : fs.length ≤ 900 := by omega
  cases j with
  | zero =>
    have e1 : (((0 : Nat) : Int) - 1) = -1 := by omega
    rw [e1] at hm1
    have hno : servedOf fs size = none := by
      unfold servedOf
      rw [← hv]
      rfl
    rw [hno] at hret
    k_steps
    exact hret _ _ _ _ ⟨rfl, rfl⟩ (by k_asm) (by k_asm)
  | succ j =>
    have e1 : (((j + 1 : Nat) : Int) - 1) = (j : Nat) := by omega
    rw [e1] at hm1
    cases hlk : lookup fs j with
    | none =>
      have hv' : haveOf fs j = haveOf fs (size + 1) := by
        rw [← hv, haveOf, hlk]
        rfl
      k_steps
      (rename Fr _ _ _ _ => F₃); (rename News _ _ _ _ => N₃)
      exact WhileStep.intro F₃ N₃ (Nat.lt_succ_self _) ⟨rfl, by omega, hv', ⟨_, rfl⟩, hm2, ⟨_, hm3⟩, ⟨_, hm4⟩⟩
    | some y =>
      have hse : servedOf fs size = some (fillUp (size - j) j (dropK fs j) y) := by
        unfold servedOf
        rw [← hv, haveOf, hlk]
        simp [hlk]
      rw [hse] at hret
      have hyy : Plain y ∧ y.length ≤ 900 := hw (j, y) (lookup_mem hlk)
      have hdl : (dropK fs j).length ≤ 800 := Nat.le_trans (List.length_filter_le _ _) hz
      k_steps
      refine comp_start ?_
      (rename Fr _ _ _ _ => F₃); (rename News _ _ _ _ => N₃); (rename Hdr _ _ _ _ _ _ _ _ => H₃); (rename FreeIs _ _ => hf₃); (rename (∀ p : Addr × Obj, p ∈ news → p.1 ≠ l → p ∈ _) => hkeep)
      with_unfolding_all refine while_mine (n₀ := size - j) (fun i m' n' => ∃ (j' : Nat) (fs' : List (Nat × Str)) (y' : Str), j' ≤ size ∧ i = size - j' ∧ j' ≤ 5 ∧ fillUp i j' fs' y' = fillUp (size - j) j (dropK fs j) y ∧ fs'.length ≤ 800 + j' ∧ Plain y' ∧ y'.length ≤ 900 + j' ∧
        (∀ p ∈ news, p.1 ≠ l → p ∈ n') ∧ (∃ as' nn kvs', Hdr w.params n' x dx l as' nn kvs' ∧ FreeIs kvs' fs') ∧
        (∃ t', m' (Str.ofString "have") = some (.int (j' : Nat) t')) ∧ m' (Str.ofString "free") = some (.ref x) ∧ (∃ t', m' (Str.ofString "size") = some (.int (size : Nat) t')) ∧ (∃ t', m' (Str.ofString "odd") = some (.int odd t')) ∧ (∃ t', m' (Str.ofString "word") = some (.str y' t'))) F₃ N₃ (by passes_own) ⟨j, _, y, by omega, rfl, by omega, rfl, by omega, hyy.1, by omega, hkeep, ⟨_, _, _, H₃, hf₃⟩, ⟨_, hm1⟩, hm2, ⟨_, hm3⟩, ⟨_, hm4⟩, ⟨_, rfl⟩⟩ ?_
      clear F₃ N₃ H₃ hf₃ hkeep
      intro i m₃ n₃ h₃ tk₃ F₃ N₃ hJ
      obtain ⟨j', fs', y', hj', hi, hj5, hfill, hfl, hy1, hy2, hkeep, ⟨as', nn, kvs', H₃, hf₃⟩, ⟨t6, hm5⟩, hm6, ⟨t7, hm7⟩, ⟨t8, hm8⟩, ⟨t9, hm9⟩⟩ := hJ
      obtain ⟨hx₃, ⟨tk₄, hdx₃⟩, hl₃, hp₃⟩ := id H₃
      clear hl hx hdx hp
      rcases Nat.lt_or_ge j' size with hlt | hge
      · have hy3 : Plain (y' ++ Str.ofString ")") := plain_push (c := 41) hy1 (by decide) (by decide)
        have hy4 : Plain (y' ++ Str.ofString "(") := plain_push (c := 40) hy1 (by decide) (by decide)
        have hy5 : (y' ++ Str.ofString ")").length ≤ 1000 := by rw [Str.length_append]; have : (Str.ofString ")").length = 1 := by decide
                                                                omega
        have hy6 : (y' ++ Str.ofString "(").length ≤ 901 + j' := by rw [Str.length_append]; have : (Str.ofString "(").length = 1 := by decide
                                                                    omega
        have hfl9 : fs'.length ≤ 900 := by omega
        have ej : ((j' : Nat) : Int) + 1 = ((j' + 1 : Nat) : Int) := by omega
        have hfill' : fillUp (size - (j' + 1)) (j' + 1) (dropK fs' (j' + 1) ++ [(j' + 1, y' ++ Str.ofString ")")]) (y' ++ Str.ofString "(") = fillUp (size - j) j (dropK fs j) y := by
          rw [← hfill, hi, show size - j' = (size - (j' + 1)) + 1 by omega]
          rfl
        have hfl' : (dropK fs' (j' + 1) ++ [(j' + 1, y' ++ Str.ofString ")")]).length ≤ 800 + (j' + 1) := by
          have : (dropK fs' (j' + 1)).length ≤ fs'.length := List.length_filter_le _ _
          rw [List.length_append, List.length_singleton]
          omega
        k_steps
        (rename Fr _ _ _ _ => F₄); (rename News _ _ _ _ => N₄); (rename Hdr _ _ _ _ _ _ _ _ => H₄); (rename FreeIs _ _ => hf₄); (rename (∀ p : Addr × Obj, p ∈ _ → p.1 ≠ l → p ∈ _) => hkeep₄)
        exact WhileStep.intro F₄ N₄ (n' := size - (j' + 1)) (by omega) ⟨j' + 1, _, _, by omega, rfl, by omega, hfill', hfl', hy4, by omega, fun p hp hne => hkeep₄ p (hkeep p hp hne) hne, ⟨_, _, _, H₄, hf₄⟩, ⟨_, rfl⟩, hm6, ⟨_, hm7⟩, ⟨_, hm8⟩, ⟨_, rfl⟩⟩
      · have hi0 : i = 0 := by omega
        rw [hi0] at hfill
        rw [← hfill] at hret
        k_steps
        exact hret _ _ _ _ ⟨⟨_, rfl⟩, hkeep, _, _, _, H₃, hf₃⟩ (by k_asm) (by k_asm)
end

-- NEEDS:
section
variable {prog : Program} {w : World} {A : Around} {R : GenEnd} {Y : Protocol} {n : Nat} {s₀ : Shared} {c : Code} {fs : List Frame} {s : Shared} {env : Env}
  {K : Flow → Sem PySem.Fin} {H : Value → Sem PySem.Fin} {gd : Bool → Bool} {lv : List Value → List Value}
theorem seg_stmt {st : Stmt} (h : wpAny (model prog w) (A.over c fs) (exec st env) (fun f s' => Seg (model prog w) A R Y n s₀ c (K f) fs s') (fun _ _ => False) s) :
    Seg (model prog w) A R Y n s₀ c ((exec st env).wrap K H gd lv) fs s :=
  seg_wrap (wpAny_mono h (fun _ _ x => x) fun _ _ x => x.elim)
theorem seg_If {test : Expr} {body orelse : List Stmt} {pos : Pos}
    (h : wpAny (model prog w) (A.over c fs) (isTrue test env (eval test env)) (fun b s' => WhlIf b (Seg (model prog w) A R Y n s₀ c ((execs body env).wrap K H gd lv) fs s') (Seg (model prog w) A R Y n s₀ c ((execs orelse env).wrap K H gd lv) fs s')) (fun _ _ => False) s) :
    Seg (model prog w) A R Y n s₀ c ((exec (.If test body orelse pos) env).wrap K H gd lv) fs s := by
  rw [exec_If]
  refine seg_at ?_
  show Seg _ A R Y n s₀ c (Sem.wrap K H gd lv (isTrue test env (eval test env) >>= fun b => if b = true then execs body env else execs orelse env)) fs s
  rw [Sem.bind_eq_wrap', Sem.wrap_wrap]
  refine seg_wrap (wpAny_mono h (fun b s' hb => ?_) fun _ _ x => x.elim)
  cases b with
  | true => exact (show WhlIf true _ _ from hb : _)
  | false =>
    unfold WhlIf at hb
    rw [if_neg Bool.false_ne_true] at hb
    exact hb
theorem seg_For {target iter : Expr} {body orelse : List Stmt} {pos : Pos} (hs : ∀ x, foldedSetIterable iter env x = pure x)
    (h : wpAny (model prog w) (A.over c fs) (eval iter env) (fun x s₁ => wpAny (model prog w) (A.over c fs) (pyIter x) (fun it s' => ∀ p, Seg (model prog w) A R Y n s₀ (.forLoop target it body orelse env) ((model prog w).den (.forLoop target it body orelse env))
      (.ret (fun r => ((match r with | .ok f => (.pure f : Sem Flow) | .error e => .raise e).onRaise fun (x : Value) => do
        if (← field x 1) == Value.none then unsupported "frame.own-activation:exception-without-traceback"
        setFlight x env.frame).wrap K H gd lv) none (gd false) (lv []) c p [] :: fs) s') (fun _ _ => False) s₁) (fun _ _ => False) s) :
    Seg (model prog w) A R Y n s₀ c ((exec (.For target iter body orelse pos) env).wrap K H gd lv) fs s := by
  have e : exec (.For target iter body orelse pos) env = (do
      standAt pos
      let it ← (do
        let x ← eval iter env
        let x ← foldedSetIterable iter env x
        standAt iter.pos
        holding [x] (pyIter x))
      runOwn (.forLoop target it body orelse env) env) := by
    rw [exec_For]
    simp only [bind_assoc]
  rw [e]
  refine seg_at ?_
  show Seg _ A R Y n s₀ c (Sem.wrap K H gd lv ((do
        let x ← eval iter env
        let x ← foldedSetIterable iter env x
        standAt iter.pos
        holding [x] (pyIter x)) >>= fun it => runOwn (.forLoop target it body orelse env) env)) fs s
  rw [Sem.bind_eq_wrap', Sem.wrap_wrap]
  refine seg_wrap ?_
  refine wpAny_bind (wpAny_mono h (fun x s₁ h₁ => ?_) fun _ _ x => x.elim)
  refine wpAny_bind (wpAny_of_eq (hs x) (wpAny_bind (wpAny_standAt (wpAny_holding (wpAny_mono h₁ (fun it s₂ h₂ => ?_) fun _ _ x => x.elim)))))
  exact seg_call h₂
noncomputable def SegTurn (prog : Program) (w : World) (A : Around) (R : GenEnd) (Y : Protocol) (n : Nat) (s₀ : Shared) (fs : List Frame) (env : Env) (target : Expr) (it : Value) (body : List Stmt) (r : Option Value) (s₁ : Shared) : Prop :=
  match r with
  | none => Seg (model prog w) A R Y n s₀ (.block [] env) (.pure (.done .next)) fs s₁
  | some v => wpAny (model prog w) (A.over (.forLoop target it body [] env) fs) (letOwnedTupleGo target it v) (fun _ s₂ => wpAny (model prog w) (A.over (.forLoop target it body [] env) fs) (assign target env v) (fun _ s₃ =>
      Seg (model prog w) A R Y n s₀ (.forLoop target it body [] env) ((execs body env).wrap (fun f => match f with
            | .next | .cont => .pure (.again (.forLoop target it body [] env))
            | .brk => .pure (.done .next)
            | .ret v => .pure (.done (.ret v))) (fun e => (do noteFrame e env; theTreesLotGoes e : Sem Unit).wrap (fun _ => .raise e) .raise id id) id id) fs s₃) (fun _ _ => False) s₂) (fun _ _ => False) s₁
theorem seg_forLoop {target : Expr} {it : Value} {body : List Stmt}
    (h : wpAny (model prog w) (A.over (.forLoop target it body [] env) fs) (pyNext it) (SegTurn prog w A R Y n s₀ fs env target it body) (fun _ _ => False) s) :
    Seg (model prog w) A R Y n s₀ (.forLoop target it body [] env) ((model prog w).den (.forLoop target it body [] env)) fs s := by
  have e : forTurn target it body [] env = (do
      let r ← (do standAt target.pos; (pyNext it).onRaise (fun _ => standAt { target.pos with line := 0 }) : Sem (Option Value))
      match r with
      | none => .pure (.again (.block [] env))
      | some v =>
        (do letOwnedTupleGo target it v; assign target env v : Sem Unit) >>= fun _ => execs body env >>= fun f => match f with
          | .next | .cont => .pure (.again (.forLoop target it body [] env))
          | .brk => .pure (.done .next)
          | .ret v => .pure (.done (.ret v))) := by
    simp only [forTurn, bind_assoc]
    rfl
  show Seg _ A R Y n s₀ _ ((forTurn target it body [] env).onRaise (fun x => do noteFrame x env; theTreesLotGoes x)) fs s
  rw [e, Sem.onRaise_eq_wrap, Sem.bind_eq_wrap', Sem.wrap_wrap]
  refine seg_wrap (wpAny_bind (wpAny_standAt (wpAny_onRaise (wpAny_mono h (fun r s₁ h₁ => ?_) fun _ _ x => x.elim))))
  cases r with
  | none => exact seg_again rfl h₁
  | some v =>
    show Seg _ A R Y n s₀ _ (Sem.wrap _ _ _ _ ((do letOwnedTupleGo target it v; assign target env v : Sem Unit) >>= _)) fs s₁
    rw [Sem.bind_eq_wrap', Sem.wrap_wrap]
    refine seg_wrap (wpAny_bind (wpAny_mono h₁ (fun _ s₂ h₂ => wpAny_mono h₂ (fun _ s₃ h₃ => ?_) fun _ _ x => x.elim) fun _ _ x => x.elim))
    rw [Sem.bind_eq_wrap', Sem.wrap_wrap]
    rw [Sem.wrap_congr (execs body env) _ _ (K' := fun f => match f with
            | .next | .cont => .pure (.again (.forLoop target it body [] env))
            | .brk => .pure (.done .next)
            | .ret v => .pure (.done (.ret v))) (H' := (fun e => (do noteFrame e env; theTreesLotGoes e : Sem Unit).wrap (fun _ => .raise e) .raise id id))
        (fun f => by cases f <;> rfl)
        (fun e => by first | exact Sem.bind_eq_wrap _ _ | (show (do noteFrame e env; theTreesLotGoes e : Sem Unit).bind (fun _ => .raise e) = _; rw [Sem.bind_eq_wrap]))]
    exact h₃
end

-- NEEDS: p00_head p02_ledger p02b_loops p03_tells p19a_seg
noncomputable def trunc (h : Heap) (k : Nat) : Heap := { h with objs := h.objs.extract 0 k }
theorem trunc_size {h : Heap} {k : Nat} : (trunc h k).objs.size ≤ k := by
  show (h.objs.extract 0 k).size ≤ k
  rw [Array.size_extract]
  omega
theorem trunc_get {h : Heap} {k b : Nat} (hb : b < k) : (trunc h k).get? b = h.get? b := by
  unfold Heap.get? trunc
  have e : (h.objs.extract 0 k)[b]? = h.objs[b]? := by
    rw [Array.getElem?_extract]
    by_cases hs : b < h.objs.size
    · rw [if_pos (by omega), Nat.zero_add]
    · rw [if_neg (by omega), Array.getElem?_eq_none (by omega)]
  rw [e]
theorem trunc_some {h : Heap} {k b : Nat} {o : Obj} (e : (trunc h k).get? b = some o) : b < k ∧ h.get? b = some o := by
  have hb : b < k := Nat.lt_of_lt_of_le (Heap.lt_size e) trunc_size
  exact ⟨hb, (trunc_get hb).symm.trans e⟩
noncomputable def escFd (P : Params) : Option FuncData := match (Mine.hd.heap_1 P).lookup 200 with
  | some o => (match o.data with | .func fd => some fd | _ => none)
  | none => none
noncomputable def escBody (P : Params) : List Stmt := match escFd P with
  | some fd => (match fd.body with | .stmts b => b | _ => [])
  | none => []
noncomputable def escQual (P : Params) : Str := match escFd P with | some fd => fd.qualname | none => ⟨#[]⟩
noncomputable def escScope (P : Params) : Scope := match escFd P with | some fd => fd.scope | none => default
noncomputable def escCode (P : Params) : Value := match escFd P with | some fd => fd.code | none => .none
theorem esc_intro {P : Params} {Goal : List Stmt → Str → Scope → Value → Prop} {name qual : Str} {params : Arguments} {body : List Stmt} {scope : Scope} {dV kV doc pm cdv ct oc : Value} {an od : Option Addr} {osl : Array (Option Value)}
    (ho : (Mine.hd.heap_1 P).lookup 200 = some ⟨oc, od, .func (fnOf name qual params body scope dV kV doc pm an cdv ct), osl⟩) (h : Goal body qual scope cdv) : Goal (escBody P) (escQual P) (escScope P) (escCode P) := by
  have e : escFd P = some (fnOf name qual params body scope dV kV doc pm an cdv ct) := by
    unfold escFd
    rw [ho]
  unfold escBody escQual escScope escCode
  rw [e]
  exact h

/-- the generator's memory when i signs are gone -/
noncomputable def EscMem (hB : Heap) (Lg G : Addr) (og : Obj) (e it : Addr) (x : Str) (t : Tok) (i : Nat) (h : Heap) : Prop :=
  ∃ mg, h.Ns Lg mg ∧ mg (Str.ofString "escape") = some (.bool false) ∧ (∃ old, IsEnum h e it i old) ∧ h.IsStrIter it "str_ascii_iterator" x t i ∧ Lg < it ∧ it < e ∧ (Lg < G ∧ G < it ∧ h.get? G = some og) ∧ hB.objs.size ≤ Lg ∧ ∀ b o, hB.get? b = some o → h.get? b = some o
noncomputable def EscLow (Lg : Addr) (s₀ s : Shared) : Prop := ∃ h tk, s = { s₀ with heap := h, toks := tk } ∧ ∀ b o, b < Lg → s₀.heap.get? b = some o → h.get? b = some o
noncomputable def EscY (hB : Heap) (Lg G : Addr) (og : Obj) (x : Str) (t : Tok) : Protocol := fun n s₀ v s kap => ∃ e it i T c u₁ u₂ k, i + n + 1 = x.cps.size ∧ v = .ref T ∧ s.heap.get? T = some (tupO #[.int (i : Nat) u₁, .str ⟨#[c]⟩ u₂] k) ∧ x.cps[i]? = some c ∧ EscLow Lg s₀ s ∧ e < T ∧ EscMem hB Lg G og e it x t (i + 1) s.heap ∧ ∀ s'', EscMem hB Lg G og e it x t (i + 1) s''.heap → kap (.send .none) s''
noncomputable def EscP (Lg : Addr) (n : Nat) (s₀ s : Shared) : Prop := n = 0 ∧ EscLow Lg s₀ s
noncomputable def EscR (Lg : Addr) : GenEnd := fun n s₀ r s => r = .ok (.ret .none) ∧ EscP Lg n s₀ s
theorem seg_ind {M : Model} {A : Around} {R : GenEnd} {Y : Protocol} {c : Code} {t : Sem PySem.Fin} {fs : List Frame} (I : Nat → Shared → Shared → Prop)
    (step : ∀ n s₀ s, I n s₀ s → (∀ m, m < n → ∀ s₀' s', I m s₀' s' → Seg M A R Y m s₀' c t fs s') → Seg M A R Y n s₀ c t fs s) (n : Nat) (s₀ s : Shared) (h : I n s₀ s) : Seg M A R Y n s₀ c t fs s := by
  induction n using Nat.strongRecOn generalizing s₀ s with
  | ind n ih => exact step n s₀ s h fun m hm s₀' s' hI => ih m hm s₀' s' hI
theorem base_sub {hB h : Heap} {Lg : Addr} (hsz : hB.objs.size ≤ Lg) (hk : ∀ b o, hB.get? b = some o → h.get? b = some o) : ∀ b o, hB.get? b = some o → (trunc h Lg).get? b = some o :=
  fun b o e => (trunc_get (Nat.lt_of_lt_of_le (Heap.lt_size e) hsz)).trans (hk b o e)
theorem base_fr {h : Heap} {Lg : Addr} {m : Str → Option Value} (hns : h.Ns Lg m) : Fr (trunc h Lg) Lg h m := ⟨hns, fun b o e => (trunc_some e).2, trunc_size⟩
theorem sign_ne {c : Nat} (h : c ≠ 92) : (({ cps := #[c] } : Str) == Str.ofString "\\") = false := by
  refine beq_eq_false_iff_ne.mpr fun e => h ?_
  have e2 : (#[c] : Array Nat) = (Str.ofString "\\").cps := congrArg Str.cps e
  rw [show (Str.ofString "\\").cps = #[92] by decide +kernel] at e2
  simpa using e2
theorem esc_turns {prog : Program} {w : World} {A : Around} (hh : A.handled = none) (x : Str) (t : Tok) {e it : Addr} (hl : it < e) :
    WalksT prog w A e [e, it] [e, it] x.cps.size (fun i vals => ∃ t', ∃ v, (∃ c u, x.cps[i]? = some c ∧ v = .str ⟨#[c]⟩ u) ∧ vals = #[.int (i : Nat) t', v])
      (fun i h => (∃ old, IsEnum h e it i old) ∧ h.IsStrIter it "str_ascii_iterator" x t i)
      (fun i T h => (∃ v, IsEnumOut h e it ((i : Int) + 1) v T) ∧ h.IsStrIter it "str_ascii_iterator" x t (i + 1) ∧ T ≠ e ∧ T ≠ it) :=
  WalksT.enumerateD (Draws.strAscii (A := A.in1) hh it x t) e (Nat.ne_of_gt hl) (by simpa using Nat.ne_of_gt hl) (by simp)
theorem esc_enum {prog : Program} {w : World} {A : Around} {E : Value → Shared → Prop} {s : Shared} {hB : Heap} {Lg : Addr} {m : Str → Option Value} {news : Ledger} {x : Str} {t : Tok} {Q : Value → Shared → Prop} (F : Fr hB Lg s.heap m) (N : News hB Lg s.heap news) (hx : x.cps.all (· < 128) = true)
    (h : ∀ e it h', IsEnum h' e it 0 .none → h'.IsStrIter it "str_ascii_iterator" x t 0 → Lg < it → it < e → Fr hB Lg h' m → News hB Lg h' news → (∀ p ∈ news, p.1 < it) → (∀ b o, s.heap.get? b = some o → h'.get? b = some o) → Q (.ref e) { s with heap := h' }) :
    wpAny (model prog w) A (call (.type "enumerate") [.str x t]) Q E s :=
  call_enumerate_str fun h' he hit hsz hk => h _ _ h' he (by simpa [strIterType, hx] using hit) F.ns.lt (Nat.lt_succ_self _) ⟨F.ns.keeps hk, fun b o e => hk b o (F.keep b o e), F.above⟩ (fun p hp => ⟨hk _ _ (N p hp).1, (N p hp).2⟩) (fun p hp => Heap.lt_size (N p hp).1) hk
section
local macro_rules | `(tactic| walk_at "call type:enumerate") => `(tactic| (k_here; k_dflt (refine' esc_enum ?F ?N ?x ?_; (case F => k_asm); (case N => k_asm); (case x => assumption); k_whole); intro e it h' he hit hl1 hl2 F' N' hG hk))
local macro_rules | `(tactic| walk_at "pyIter ref") => `(tactic| (k_here; k_dflt (refine wpAny_pyIter_enum (by assumption) ?_)))
local macro_rules | `(tactic| walk_at "assign Tuple") => `(tactic| (k_here; (with_reducible show wpAny _ _ (assign (Expr.Tuple _ _ _) _ (Value.ref _)) _ _ _); k_dflt (refine' unpackN_ ?F ?N ?T ?k1 ?k2 ?k3 ?_; (case F => k_asm); (case N => k_asm); (case T => assumption); (case k1 => first | exact rfl | assumption); (case k2 => exact rfl); (case k3 => exact rfl)); intro h' F' N'; (try k_sweep)))
set_option maxHeartbeats 0 in
theorem esc_seg {prog : Program} {w : World} {A : Around} {p : Program} {loose : List Str} {mean : ExcName → Option Value} {mg mb : Str → Option Value} {hB : Heap} {Lg G : Addr} {og : Obj} {x : Str} {t : Tok}
    (hh : A.handled = none) (XB : (Mine.hd.heap_1 w.params).In hB) (TB : Top p loose mean mg mb hB) (hx : ∀ c ∈ x.cps, c < 128 ∧ c ≠ 92) (hx8 : x.cps.all (· < 128) = true) :
    ∀ (s : Shared), s.heap.Ns Lg (fun y => [(Str.ofString "addr", Value.str x t)].lookup y) → hB.objs.size ≤ Lg → (∀ b o, hB.get? b = some o → s.heap.get? b = some o) → Lg < G → s.heap.get? G = some og →
    Seg (model prog w) A (EscR Lg) (EscY hB Lg G og x t) x.cps.size s (.func (escBody w.params) (envOf (escQual w.params) (escScope w.params) Lg 200 (escCode w.params))) ((model prog w).den (.func (escBody w.params) (envOf (escQual w.params) (escScope w.params) Lg 200 (escCode w.params)))) [] s := by
  refine' esc_intro (Goal := fun b q sc cd => ∀ (s : Shared), s.heap.Ns Lg (fun y => [(Str.ofString "addr", Value.str x t)].lookup y) → hB.objs.size ≤ Lg → (∀ b o, hB.get? b = some o → s.heap.get? b = some o) → Lg < G → s.heap.get? G = some og →
    Seg (model prog w) A (EscR Lg) (EscY hB Lg G og x t) x.cps.size s (.func b (envOf q sc Lg 200 cd)) ((model prog w).den (.func b (envOf q sc Lg 200 cd))) [] s) ?ho ?_
  case ho => k_is
  intro s hns hsz hk hLG hGo
  have F : Fr (trunc s.heap Lg) Lg s.heap _ := base_fr hns
  have X := XB.keeps (base_sub hsz hk)
  have T := TB.keeps (base_sub hsz hk)
  have N : News (trunc s.heap Lg) Lg s.heap [(G, og)] := fun p hp => by
    rw [List.mem_singleton.mp hp]
    exact ⟨hGo, Nat.ne_of_gt hLG, Heap.get?_none_of_le (Nat.le_trans trunc_size (Nat.le_of_lt hLG))⟩
  refine seg_func ?_
  refine seg_execs_cons (seg_stmt ?_)
  k_steps
  refine seg_execs_cons (seg_stmt ?_)
  k_steps
  refine seg_execs_cons (seg_For (fun _ => rfl) ?_)
  k_steps
  (rename Fr _ _ _ _ => F₁); (rename IsEnum _ _ _ _ _ => he); (rename (Heap.IsStrIter _ _ _ _ _ _) => hit); (rename News _ _ _ _ => N₁); (rename (∀ p ∈ [(G, og)], p.1 < _) => hGi); (rename _ < _ => hl2); (rename Lg < _ => hl1)
  refine seg_ind (fun n s₀ s' => ∃ i, i + n = x.cps.size ∧ EscMem hB Lg G og _ _ x t i s'.heap ∧ EscLow Lg s₀ s') ?_ _ _ _ ⟨0, by omega, ⟨_, F₁.ns, rfl, ⟨_, he⟩, hit, hl1, hl2, ⟨hLG, hGi _ (.head _), (N₁ _ (.head _)).1⟩, hsz, fun b o e => F₁.keep b o (base_sub hsz hk b o e)⟩, ⟨_, _, rfl, fun b o hb e => F₁.keep b o ((trunc_get hb).trans e)⟩⟩
  clear F₁ N₁ he hit hGi X T hGo
  intro n s₀ s₁ hI IH
  obtain ⟨i, hin, hmem, hlow⟩ := hI
  obtain ⟨mg', hns', hesc, ⟨old, hen⟩, hit, hl1, hl2, ⟨hLG', hGi, hGo⟩, hsz', hk'⟩ := hmem
  have F : Fr (trunc s₁.heap Lg) Lg s₁.heap _ := base_fr hns'
  have X := XB.keeps (base_sub hsz' hk')
  have T := TB.keeps (base_sub hsz' hk')
  obtain ⟨h₁, tk₁, rfl, hlo⟩ := hlow
  dsimp only at hns' hen hit hk' hGo F X T
  refine seg_forLoop ?_
  rcases Nat.lt_or_ge i x.cps.size with hlt | hge
  · obtain ⟨n, rfl⟩ : ∃ k, n = k + 1 := ⟨n - 1, by omega⟩
    refine (esc_turns (by exact hh) x t hl2).item i _ _ _ hlt ⟨⟨old, hen⟩, hit⟩ (fun T' vals h' tk' hP hTs hT hMid hkeep => ?_)
    refine (esc_turns (by exact hh) x t hl2).go _ _ _ i T' _ _ _ hMid (fun h'' hst hkeep' => ?_)
    dsimp only at hst hkeep hkeep' hTs
    obtain ⟨⟨old', hen'⟩, hit'⟩ := hst
    obtain ⟨t', v', ⟨c, u, hc, rfl⟩, rfl⟩ := hP
    have hTa := hMid.2.2
    have hT'' : IsTup h'' T' #[.int (i : Nat) t', .str ⟨#[c]⟩ u] := by
      obtain ⟨o, ho, r⟩ := hT
      exact ⟨o, hkeep' _ _ (by simpa using hTa) ho, r⟩
    have hbk : ∀ b, b < Lg → b ∉ ([_, _] : List Addr) := fun b hb => by
      simp only [List.mem_cons, List.not_mem_nil, or_false, not_or]
      exact ⟨Nat.ne_of_lt (Nat.lt_trans hb (Nat.lt_trans hl1 hl2)), Nat.ne_of_lt (Nat.lt_trans hb hl1)⟩
    have F₂ : Fr (trunc h₁ Lg) Lg h'' mg' := ⟨hns'.at' fun o e => hkeep' _ _ (by simpa using ⟨Nat.ne_of_lt (Nat.lt_trans hl1 hl2), Nat.ne_of_lt hl1⟩) (hkeep _ _ (by simpa using ⟨Nat.ne_of_lt (Nat.lt_trans hl1 hl2), Nat.ne_of_lt hl1⟩) e), fun b o e => hkeep' _ _ (hbk b (trunc_some e).1) (hkeep _ _ (hbk b (trunc_some e).1) (trunc_some e).2), trunc_size⟩
    obtain ⟨oi, hoi, hoi1, hoi2⟩ := hit'
    have hGn := hkeep' _ _ (by simpa using ⟨Nat.ne_of_lt (Nat.lt_trans hGi hl2), Nat.ne_of_lt hGi⟩) (hkeep _ _ (by simpa using ⟨Nat.ne_of_lt (Nat.lt_trans hGi hl2), Nat.ne_of_lt hGi⟩) hGo)
    have N₂ : News (trunc h₁ Lg) Lg h'' [(_, _), (_, oi), (G, og)] := fun p hp => by
      simp only [List.mem_cons, List.not_mem_nil, or_false] at hp
      rcases hp with rfl | rfl | rfl
      · exact ⟨hen', Nat.ne_of_gt (Nat.lt_trans hl1 hl2), Heap.get?_none_of_le (Nat.le_trans trunc_size (Nat.le_of_lt (Nat.lt_trans hl1 hl2)))⟩
      · exact ⟨hoi, Nat.ne_of_gt hl1, Heap.get?_none_of_le (Nat.le_trans trunc_size (Nat.le_of_lt hl1))⟩
      · exact ⟨hGn, Nat.ne_of_gt hLG', Heap.get?_none_of_le (Nat.le_trans trunc_size (Nat.le_of_lt hLG'))⟩
    clear F hns' hen hit hen'
    k_steps
    refine seg_execs_cons (seg_If ?_)
    k_steps
    refine seg_execs_cons (seg_If ?_)
    k_steps
    have hc92 : (({ cps := #[c] } : Str) == Str.ofString "\\") = false := sign_ne (hx c (Array.mem_of_getElem? hc)).2
    refine WhlIf.no hc92 ?_
    refine seg_execs_cons (seg_Expr_Yield rfl rfl rfl ?_)
    k_steps
    (rename Fr _ _ _ _ => F₅); (rename News _ _ _ _ => N₅); (rename (∀ (_ : Value) (_ : Shared), _ → _) => hkap)
    refine ⟨_, _, i, _, c, _, _, 0, by omega, rfl, (N₅ _ (.head _)).1, hc, ⟨_, _, rfl, fun b o hb ho => F₅.keep b o ((trunc_get hb).trans (hlo b o hb ho))⟩, ?_,
      ⟨_, F₅.ns, hesc, ⟨_, (N₅ _ (.tail _ (.head _))).1⟩, ⟨_, (N₅ _ (.tail _ (.tail _ (.head _)))).1, hoi1, hoi2⟩, hl1, hl2, ⟨hLG', hGi, (N₅ _ (.tail _ (.tail _ (.tail _ (.head _))))).1⟩, hsz', fun b o e => F₅.keep b o (base_sub hsz' hk' b o e)⟩, fun s'' hm => hkap .none s'' ?_⟩
    · exact (by assumption : _ ∧ _ ∧ G < _).1
    · exact seg_again rfl (IH n (Nat.lt_succ_self n) s'' s'' ⟨i + 1, by omega, hm, ⟨s''.heap, s''.toks, rfl, fun b o _ e => e⟩⟩)
  · obtain rfl : i = x.cps.size := by omega
    obtain rfl : n = 0 := by omega
    refine (esc_turns (by exact hh) x t hl2).done _ _ _ ⟨⟨old, hen⟩, hit⟩ (fun h' tk' hkeep => ?_)
    dsimp only at hkeep
    have hbk : ∀ b, b < Lg → b ∉ ([_, _] : List Addr) := fun b hb => by
      simp only [List.mem_cons, List.not_mem_nil, or_false, not_or]
      exact ⟨Nat.ne_of_lt (Nat.lt_trans hb (Nat.lt_trans hl1 hl2)), Nat.ne_of_lt (Nat.lt_trans hb hl1)⟩
    have F₂ : Fr (trunc h₁ Lg) Lg h' mg' := ⟨hns'.at' fun o e => hkeep _ _ (by simpa using ⟨Nat.ne_of_lt (Nat.lt_trans hl1 hl2), Nat.ne_of_lt hl1⟩) e, fun b o e => hkeep _ _ (hbk b (trunc_some e).1) (trunc_some e).2, trunc_size⟩
    have N₂ : News (trunc h₁ Lg) Lg h' [] := fun p hp => nomatch hp
    clear F hns' hen hit
    refine seg_leaf (r := .ok .next) ?_
    refine seg_execs_cons (seg_If ?_)
    k_steps
    (rename Fr _ _ _ _ => F₅)
    refine seg_end (r := .ok (.ret .none)) ⟨rfl, rfl, ⟨_, _, rfl, fun b o hb ho => F₅.keep b o ((trunc_get hb).trans (hlo b o hb ho))⟩⟩
end

-- NEEDS: p00_head p02_ledger p02b_loops p03_tells p19a_seg p19b_gen
theorem next_gen {prog : Program} {w : World} {A : Around} {E : Value → Shared → Prop} {s : Shared} {a : Addr} {g n : Nat} {gs : GenState} {P : Nat → Shared → Shared → Prop} {Y : Protocol} {Q : Option Value → Shared → Prop} (hh : A.handled = none)
    (hl : s.heap.NoLimit) (hroom : A.depth < recursionLimit) (hg : s.heap.IsGen a g) (hgs : s.gens[g]? = some gs)
    (hgo : gs.Goes (model prog w) A.in1 (fun n s₀ r s₁ => r = .ok (.ret .none) ∧ P n s₀ s₁) Y n (.send .none) (s.setGen g .running))
    (hY : ∀ v s₁ gs', gs'.bare = true → Y (n - 1) (s.setGen g .running) v s₁ (fun r' s'' => match n with
        | 0 => False
        | m + 1 => gs'.Goes (model prog w) A.in1 (fun n s₀ r s₁ => r = .ok (.ret .none) ∧ P n s₀ s₁) Y m r' s'') → Q (some v) (s₁.setGen g gs'))
    (hP : ∀ s₁, P n (s.setGen g .running) s₁ → ∀ h', (∀ b o, s₁.heap.get? b = some o → h'.get? b = some o) → Q none { s₁.setGen g .finished with heap := h' }) :
    wpAny (model prog w) A (pyNext (.ref a)) Q E s := by
  have step : wpAny (model prog w) A.in1 (Builtin.Generator.genWake (.ref a) (.send .none)) (fun f s' => ∃ v, f = .done (.ret v) ∧ Q (some v) s')
      (fun e s' => wpAny (model prog w) A (isInstance e (.type "StopIteration")) (fun b s₂ => if b = true then Q none s₂ else E e s₂) E s') s := by
    unfold Builtin.Generator.genWake
    refine wpAny_bind (wpAny_holding (wpAny_genNumber hg (wpAny_bind (wpAny_genState hgs ?_))))
    have stop : ∀ s₁, P n (s.setGen g .running) s₁ → ∀ {h' : Heap} {e : Addr} {o : Obj}, h'.get? e = some o → o.cls = .type "StopIteration" → (∀ b o, s₁.heap.get? b = some o → h'.get? b = some o) →
        wpAny (model prog w) A (isInstance (.ref e) (.type "StopIteration")) (fun b s₂ => if b = true then Q none s₂ else E (.ref e) s₂) E { s₁.setGen g .finished with heap := h' } := by
      intro s₁ hp h' e o ho hc hk
      exact wpAny_isInstance (T := "StopIteration") (b := true) ⟨o, ho, hc⟩ isSubtype_stop (hP s₁ hp h' hk)
    cases gs with
    | running => exact hgo.elim
    | finished => exact hgo.elim
    | _ =>
      refine wpAny_bind (wpAny_roomToWake hl hroom ?_)
      show wpAny _ A.in1 (.resume g (.send .none) [] _) _ _ s
      refine wpAny_resumeQ hgs hgo (fun x s₁ hx => ?_) (fun v s₁ gs' hb hv => wpAny_pure ⟨v, rfl, hY v s₁ gs' hb hv⟩)
      obtain ⟨rfl, hp⟩ := hx
      show wpAny _ A.in1 (newExc (.type "StopIteration") [] >>= _) _ _ _
      simp only [newExc, newTuple]
      refine wpAny_bind (wpAny_bind (wpAny_newObj_type ?_ (by size_fits)))
      refine wpAny_bind (m := firstArgMember _ _) (wpAny_of_eq (a := Value.none) (by first | rfl | (simp only [firstArgMember]; rfl)) ?_)
      refine wpAny_newObj_type ?_ (by size_fits)
      simp only [raiseNew]
      refine wpAny_bind (wpAny_bind (wpAny_handled ?_))
      first | rw [show A.in1.handled = none from hh] | rw [hh]
      refine wpAny_throw ?_
      exact stop s₁ hp (Heap.get?_push_size _ rfl) rfl fun b o hb => Heap.get?_push_of_some _ (Heap.get?_push_of_some _ hb)
  unfold pyNext
  refine wpAny_bind (wpAny_attempt (wpAny_callSpecial?_slot (name := Str.ofString "__next__") hg.typeIs slot_gen_next (wpAny_call_entry slot_gen_next hg.typeIs entry_gen_next ?_ (args_gen_next _))))
  refine wpAny_mono step (fun f s' hf => ?_) (fun e s' he => ?_)
  · obtain ⟨v, rfl, hq⟩ := hf
    exact ⟨v, rfl, wpAny_pure hq⟩
  · show wpAny _ _ (isInstance e (.type "StopIteration") >>= fun b => if b = true then pure none else throw e) _ _ _
    refine wpAny_bind (wpAny_mono he (fun b s₂ hb => ?_) fun _ _ z => z)
    cases b with
    | true => exact wpAny_pure hb
    | false => exact wpAny_throw hb
noncomputable def genObj (g : Nat) (n q : Str) (t₁ t₂ : Tok) : Obj := { cls := .type "generator", data := .fields #[.int g 0, .str n t₁, .str q t₂] }
set_option maxHeartbeats 0 in
theorem gen_call {prog : Program} {w : World} {A : Around} {p : Program} {loose : List Str} {mean : ExcName → Option Value} {mg mb : Str → Option Value} {h₀ : Heap} {L : Addr} {m : Str → Option Value} {news : Ledger} {x : Str} {t : Tok} {E : Value → Shared → Prop} {s : Shared} {Q : Value → Shared → Prop}
    (hroom : A.depth < recursionLimit) (F : Fr h₀ L s.heap m) (X₀ : (Mine.hd.heap_1 w.params).In h₀) (N : News h₀ L s.heap news) (T : Top p loose mean mg mb h₀) :
    (∀ Lg G og h' tk, Fr h₀ L h' m → News h₀ L h' ((G, og) :: news) → h'.Ns Lg (fun y => [(Str.ofString "addr", Value.str x t)].lookup y) → h'.IsGen G s.gens.size → (∀ p ∈ news, p.1 < Lg) → L < Lg → Lg < G → h₀.objs.size ≤ Lg →
      Q (.ref G) { s with gens := s.gens.push (.fresh (.func (escBody w.params) (envOf (escQual w.params) (escScope w.params) Lg 200 (escCode w.params)))), toks := tk, heap := h' }) →
    wpAny (model prog w) A (call (.ref 200) [.str x t]) Q E s := by
  refine' esc_intro (Goal := fun b q sc cd => (∀ Lg G og h' tk, Fr h₀ L h' m → News h₀ L h' ((G, og) :: news) → h'.Ns Lg (fun y => [(Str.ofString "addr", Value.str x t)].lookup y) → h'.IsGen G s.gens.size → (∀ p ∈ news, p.1 < Lg) → L < Lg → Lg < G → h₀.objs.size ≤ Lg →
      Q (.ref G) { s with gens := s.gens.push (.fresh (.func b (envOf q sc Lg 200 cd))), toks := tk, heap := h' }) →
    wpAny (model prog w) A (call (.ref 200) [.str x t]) Q E s) ?ho ?_
  case ho => k_is
  intro h
  have X := X₀.keeps F.keep
  refine wpAny_call ?_
  refine codeAny_call_generator hroom (X 200 _ rfl) rfl rfl rfl rfl (codeRec_of X ?hc) ?_
  case hc => k_is
  refine (BindsTo.of_eq (s := s) (binds := [(Str.ofString "addr", Value.str x t)]) rfl) _ _ _ _ ?_
  refine wpAny_newFunctionEnv (by decide) (locs rfl) (fun h' hn hs' => ?_) rfl
  have hk : ∀ b o, s.heap.get? b = some o → h'.get? b = some o := fun b o e => hs'.extBut b o (Nat.ne_of_lt (Heap.lt_size e)) (Heap.get?_push_of_some _ e)
  have hsz : h'.objs.size = s.heap.objs.size + 1 := by rw [hs'.1, Heap.size_push]
  have hLs := F.ns.lt
  have hab := F.above
  have hb : ∀ o : Obj, o.isFreed = false → News h₀ L (h'.push o) ((h'.objs.size, o) :: news) := by
    intro o ho q hq
    rcases List.mem_cons.mp hq with rfl | hq
    · exact ⟨Heap.get?_push_size _ ho, Nat.ne_of_gt (hsz ▸ Nat.lt_succ_of_lt hLs), Heap.get?_none_of_le (hsz ▸ Nat.le_succ_of_le (Nat.le_trans hab (Nat.le_of_lt hLs)))⟩
    · exact ⟨Heap.get?_push_of_some _ (hk _ _ (N q hq).1), (N q hq).2⟩
  refine ⟨(T.nolimit.keeps F.keep).keeps hk, ?_⟩
  exact h s.heap.objs.size h'.objs.size _ (h'.push _) _ ⟨F.ns.keeps fun b o e => Heap.get?_push_of_some _ (hk b o e), fun b o e => Heap.get?_push_of_some _ (hk b o (F.keep b o e)), F.above⟩ (hb _ rfl) (hn.push _) ⟨_, _, _, Heap.get?_push_size _ rfl, rfl, rfl, rfl⟩ (fun q hq => Heap.lt_size (N q hq).1) hLs (hsz ▸ Nat.lt_succ_self _) (Nat.le_trans hab (Nat.le_of_lt hLs))
noncomputable def GenReady (prog : Program) (w : World) (A : Around) (hB : Heap) (Lg G : Addr) (og : Obj) (x : Str) (t : Tok) (i : Nat) (own : Ledger) (gst : GenState) : Prop :=
  gst.bare = true ∧ ∀ s'' : Shared, (∀ p ∈ own, s''.heap.get? p.1 = some p.2) → (∀ b o, hB.get? b = some o → s''.heap.get? b = some o) → gst.Goes (model prog w) A (EscR Lg) (EscY hB Lg G og x t) (x.cps.size - i) (.send .none) s''
noncomputable def GStep (h₀ : Heap) (L Lg : Addr) (own : Ledger) (J : (Str → Option Value) → Ledger → Prop) (Q : Flow → Shared → Prop) (s₁ : Shared) (f : Flow) (s₂ : Shared) : Prop :=
  match f with
  | .ret v => Q (.ret v) s₂
  | .brk => Q .next s₂
  | _ => ∃ h' tk m' news', s₂ = { s₁ with heap := h', toks := tk } ∧ Fr h₀ L h' m' ∧ News h₀ L h' (own ++ news') ∧ (∀ p ∈ news', p.1 < Lg) ∧ J m' news'
theorem letGo_gen {prog : Program} {w : World} {A : Around} {E : Value → Shared → Prop} {target : Expr} {G : Addr} {g : Nat} {v : Value} {Q' : Unit → Shared → Prop} {s' : Shared} (hit : s'.heap.IsGen G g) (h : Q' () s') :
    wpAny (model prog w) A (letOwnedTupleGo target (.ref G) v) Q' E s' := by
  obtain ⟨o, nm, qn, ho, hc, hd, _⟩ := hit
  unfold letOwnedTupleGo
  cases target <;> first
    | exact wpAny_pure h
    | (cases v <;> first
        | exact wpAny_pure h
        | (refine wpAny_bind (wpAny_load ho ?_)
           rw [hc, hd]
           exact wpAny_pure h))
set_option maxHeartbeats 1000000 in
theorem gen_for {prog : Program} {w : World} {A : Around} {E : Value → Shared → Prop} {Q : Flow → Shared → Prop} {env : Env} {target : Expr} {body : List Stmt} {s : Shared} {h₀ : Heap} {m : Str → Option Value} {news own₀ : Ledger} {Lg G : Addr} {og : Obj} {x : Str} {t : Tok} {g : Nat} {gst₀ : GenState} {ga : Array GenState}
    (J : Nat → (Str → Option Value) → Ledger → Prop) (hh : A.handled = none) (hroom : A.depth < recursionLimit) (hE : PassesOwn (model prog w) A env E) (hlim : h₀.NoLimit) (hsz : h₀.objs.size ≤ Lg) (hL : env.locals < Lg)
    (hG : ∀ h : Heap, h.get? G = some og → h.IsGen G g) (hgs : s.gens[g]? = some gst₀) (hbare : AllBare ga → AllBare s.gens) (R₀ : GenReady prog w A.in1 h₀ Lg G og x t 0 own₀ gst₀) (hGo : (G, og) ∈ own₀)
    (F : Fr h₀ env.locals s.heap m) (N : News h₀ env.locals s.heap (own₀ ++ news)) (hlow : ∀ p ∈ news, p.1 < Lg) (J0 : J 0 m news)
    (step : ∀ i c m₁ news₁ e it oe oi oL T u₁ u₂ k h₁ tk₁ gs₁, x.cps[i]? = some c → J i m₁ news₁ → (∀ p ∈ news₁, p.1 < Lg) → (Lg < it ∧ it < e ∧ e < T ∧ Lg < G ∧ G < it) → Fr h₀ env.locals h₁ m₁ → News h₀ env.locals h₁ ((T, tupO #[.int (i : Nat) u₁, .str ⟨#[c]⟩ u₂] k) :: (e, oe) :: (it, oi) :: (G, og) :: (Lg, oL) :: news₁) → (AllBare ga → AllBare gs₁) →
      wpAny (model prog w) A (assign target env (.ref T)) (fun _ s₂ => wpAny (model prog w) A (execs body env) (GStep h₀ env.locals Lg [(e, oe), (it, oi), (G, og), (Lg, oL)] (J (i + 1)) Q { s with heap := h₁, toks := tk₁, gens := gs₁ }) E s₂) E { s with heap := h₁, toks := tk₁, gens := gs₁ })
    (done : ∀ h₁ tk₁ gs₁ m' news', J x.cps.size m' news' → (∀ p ∈ news', p.1 < Lg) → Fr h₀ env.locals h₁ m' → News h₀ env.locals h₁ news' → (AllBare ga → AllBare gs₁) → Q .next { s with heap := h₁, toks := tk₁, gens := gs₁ }) :
    codeAny (model prog w) A (.forLoop target (.ref G) body [] env) (fun r s' => match r with | .ok f => Q f s' | .error e => cameBackBy (model prog w) A env E e s') s := by
  refine codeAny_forLoop_any (fun k s' => ∃ i h' tk gs' m' news' own gst, s' = { s with heap := h', toks := tk, gens := gs' } ∧ gs'[g]? = some gst ∧ (AllBare ga → AllBare gs') ∧ GenReady prog w A.in1 h₀ Lg G og x t i own gst ∧ (G, og) ∈ own ∧
    Fr h₀ env.locals h' m' ∧ News h₀ env.locals h' (own ++ news') ∧ (∀ p ∈ news', p.1 < Lg) ∧ J i m' news' ∧ i ≤ x.cps.size ∧ k = x.cps.size + 1 - i) ?_ (x.cps.size + 1)
    ⟨0, s.heap, s.toks, s.gens, m, news, own₀, gst₀, rfl, hgs, hbare, R₀, hGo, F, N, hlow, J0, Nat.zero_le _, rfl⟩
  rintro k s' ⟨i, h', tk, gs', m', news', own, gst, rfl, hgs', hbare', R', hGo', F', N', hlow', hJ, hi, rfl⟩
  have hLs := F'.ns.lt
  have low : ∀ h₁ : Heap, (∀ b o, b < Lg → h'.get? b = some o → h₁.get? b = some o) → Fr h₀ env.locals h₁ m' ∧ News h₀ env.locals h₁ news' := fun h₁ hk₁ =>
    ⟨⟨F'.ns.at' fun o e => hk₁ _ o hL e, fun b o e => hk₁ b o (Nat.lt_of_lt_of_le (Heap.lt_size e) hsz) (F'.keep b o e), F'.above⟩, fun p hp => ⟨hk₁ _ _ (hlow' p hp) (N' p (List.mem_append_right _ hp)).1, (N' p (List.mem_append_right _ hp)).2⟩⟩
  have hset : ∀ (gs₁ : Array GenState) st, (AllBare ga → AllBare gs₁) → st.bare = true → (AllBare ga → AllBare (gs₁.setIfInBounds g st)) := by
    intro gs₁ st hb hst ha y hy
    rcases Array.mem_or_eq_of_mem_setIfInBounds hy with h | h
    · exact hb ha y h
    · exact h ▸ hst
  refine next_gen (n := x.cps.size - i) (P := EscP Lg) hh (hlim.keeps F'.keep) hroom (hG _ (N' _ (List.mem_append_left _ hGo')).1) hgs' (R'.2 _ (fun p hp => (N' p (List.mem_append_left _ hp)).1) F'.keep) (fun v s₁ gn hgn hy => ?_) (fun s₁ hp h₂ hk₂ => ?_)
  · obtain ⟨e, it, i', T', c, u₁, u₂, k, hi', rfl, hT, hc, ⟨h₁, tk₁, rfl, hlo⟩, heT, hmem, hkap⟩ := hy
    dsimp only [Shared.setGen] at hlo hT hmem
    have hlow₁ := low h₁ hlo
    rcases Nat.lt_or_ge i x.cps.size with hlt | hge
    · obtain rfl : i' = i := by omega
      rw [show x.cps.size - i' = (x.cps.size - (i' + 1)) + 1 by omega] at hkap
      obtain ⟨mg', ⟨oL, es, ep, hoL, hL1, hL2, hL3⟩, hesc, ⟨old, hen⟩, ⟨oi, hoi, hoi1, hoi2⟩, hl1, hl2, ⟨hl3, hl4, hGg⟩, hsz', hk'⟩ := hmem
      obtain ⟨oe, hoe, hoe'⟩ : ∃ oe, h₁.get? e = some oe ∧ ∀ h : Heap, h.get? e = some oe → IsEnum h e it ((i' + 1 : Nat) : Int) old := ⟨_, hen, fun _ h => h⟩
      have hown : GenReady prog w A.in1 h₀ Lg G og x t (i' + 1) [(e, oe), (it, oi), (G, og), (Lg, oL)] gn :=
        ⟨hgn, fun s'' ho hb => hkap s'' ⟨mg', ⟨oL, es, ep, ho (Lg, oL) (.tail _ (.tail _ (.tail _ (.head _)))), hL1, hL2, hL3⟩, hesc, ⟨old, hoe' _ (ho (e, oe) (.head _))⟩, ⟨oi, ho (it, oi) (.tail _ (.head _)), hoi1, hoi2⟩, hl1, hl2, ⟨hl3, hl4, ho (G, og) (.tail _ (.tail _ (.head _)))⟩, hsz', hb⟩⟩
      have hN : News h₀ env.locals h₁ ((T', tupO #[.int (i' : Nat) u₁, .str ⟨#[c]⟩ u₂] k) :: (e, oe) :: (it, oi) :: (G, og) :: (Lg, oL) :: news') := by
        intro p hp
        have big : ∀ b, Lg ≤ b → b ≠ env.locals ∧ h₀.get? b = none := fun b hb => ⟨Nat.ne_of_gt (Nat.lt_of_lt_of_le hL hb), Heap.get?_none_of_le (Nat.le_trans hsz hb)⟩
        rcases List.mem_cons.mp hp with rfl | hp
        · exact ⟨hT, big _ (Nat.le_of_lt (Nat.lt_trans hl1 (Nat.lt_trans hl2 heT)))⟩
        rcases List.mem_cons.mp hp with rfl | hp
        · exact ⟨hoe, big _ (Nat.le_of_lt (Nat.lt_trans hl1 hl2))⟩
        rcases List.mem_cons.mp hp with rfl | hp
        · exact ⟨hoi, big _ (Nat.le_of_lt hl1)⟩
        rcases List.mem_cons.mp hp with rfl | hp
        · exact ⟨hGg, big _ (Nat.le_of_lt hl3)⟩
        rcases List.mem_cons.mp hp with rfl | hp
        · exact ⟨hoL, big _ (Nat.le_refl _)⟩
        · exact hlow₁.2 p hp
      have hgb : AllBare ga → AllBare ((gs'.setIfInBounds g .running).setIfInBounds g gn) := hset _ _ (hset _ _ hbare' rfl) hgn
      have hgg : ((gs'.setIfInBounds g .running).setIfInBounds g gn)[g]? = some gn := by
        have hlt : g < gs'.size := by
          rcases Nat.lt_or_ge g gs'.size with h | h
          · exact h
          · rw [Array.getElem?_eq_none h] at hgs'; cases hgs'
        rw [Array.getElem?_setIfInBounds_self_of_lt (by simpa using hlt)]
      dsimp only
      refine letGo_gen (hG _ hGg) ?_
      refine wpAny_passesOwn hE (wpAny_mono (step i' c m' news' e it oe oi oL T' u₁ u₂ k h₁ tk₁ _ hc hJ hlow' ⟨hl1, hl2, heT, hl3, hl4⟩ hlow₁.1 hN hgb) (fun _ s₂ h₂ => ?_) fun _ _ z => z)
      refine wpAny_passesOwn hE (wpAny_mono h₂ (fun f s₃ h₃ => ?_) fun _ _ z => z)
      cases f with
      | ret v => exact h₃
      | brk => exact h₃
      | next =>
        obtain ⟨h₄, tk₄, m₄, news₄, rfl, F₄, N₄, l₄, J₄⟩ := h₃
        exact ⟨x.cps.size + 1 - (i' + 1), by omega, i' + 1, h₄, tk₄, _, m₄, news₄, _, gn, rfl, hgg, hgb, hown, .tail _ (.tail _ (.head _)), F₄, N₄, l₄, J₄, hlt, rfl⟩
      | cont =>
        obtain ⟨h₄, tk₄, m₄, news₄, rfl, F₄, N₄, l₄, J₄⟩ := h₃
        exact ⟨x.cps.size + 1 - (i' + 1), by omega, i' + 1, h₄, tk₄, _, m₄, news₄, _, gn, rfl, hgg, hgb, hown, .tail _ (.tail _ (.head _)), F₄, N₄, l₄, J₄, hlt, rfl⟩
    · rw [show x.cps.size - i = 0 by omega] at hkap
      exact (hkap ⟨h₁, gs', s.drawn, tk₁, s.os⟩ hmem).elim
  · obtain ⟨hn0, ⟨h₁, tk₁, rfl, hlo⟩⟩ := hp
    dsimp only [Shared.setGen] at hlo hk₂
    obtain rfl : i = x.cps.size := by omega
    have hlow₁ := low h₂ fun b o hb ho => hk₂ b o (hlo b o hb ho)
    refine wpAny_execs_nil ?_
    exact done h₂ tk₁ _ m' news' hJ hlow' hlow₁.1 hlow₁.2 (hset _ _ (hset _ _ hbare' rfl) rfl)
theorem gen_for0 {prog : Program} {w : World} {A : Around} {p : Program} {loose : List Str} {mean : ExcName → Option Value} {mg mb : Str → Option Value} {E : Value → Shared → Prop} {Q : Flow → Shared → Prop} {env : Env} {target : Expr} {body : List Stmt} {s : Shared} {h₀ : Heap} {L : Addr} {m : Str → Option Value} {news : Ledger} {Lg G : Addr} {og : Obj} {x : Str} {t : Tok} {ga : Array GenState}
    (J : Nat → (Str → Option Value) → Ledger → Prop) (hLe : env.locals = L) (hh : A.handled = none) (hroom : A.depth < recursionLimit) (hE : PassesOwn (model prog w) A env E) (X : (Mine.hd.heap_1 w.params).In h₀) (T : Top p loose mean mg mb h₀) (hx : ∀ c ∈ x.cps, c < 128 ∧ c ≠ 92) (hx8 : x.cps.all (· < 128) = true)
    (F : Fr h₀ L s.heap m) (N : News h₀ L s.heap ((G, og) :: news)) (hns : s.heap.Ns Lg (fun y => [(Str.ofString "addr", Value.str x t)].lookup y)) (hgen : s.heap.IsGen G ga.size) (hlow : ∀ p ∈ news, p.1 < Lg) (hL : L < Lg) (hLG : Lg < G) (hsz : h₀.objs.size ≤ Lg)
    (hgs : s.gens = ga.push (.fresh (.func (escBody w.params) (envOf (escQual w.params) (escScope w.params) Lg 200 (escCode w.params))))) (J0 : J 0 m news)
    (step : ∀ i c m₁ news₁ e it oe oi oL T u₁ u₂ k h₁ tk₁ gs₁, x.cps[i]? = some c → J i m₁ news₁ → (∀ p ∈ news₁, p.1 < Lg) → (Lg < it ∧ it < e ∧ e < T ∧ Lg < G ∧ G < it) → Fr h₀ L h₁ m₁ → News h₀ L h₁ ((T, tupO #[.int (i : Nat) u₁, .str ⟨#[c]⟩ u₂] k) :: (e, oe) :: (it, oi) :: (G, og) :: (Lg, oL) :: news₁) → (AllBare ga → AllBare gs₁) →
      wpAny (model prog w) A (assign target env (.ref T)) (fun _ s₂ => wpAny (model prog w) A (execs body env) (GStep h₀ L Lg [(e, oe), (it, oi), (G, og), (Lg, oL)] (J (i + 1)) Q { s with heap := h₁, toks := tk₁, gens := gs₁ }) E s₂) E { s with heap := h₁, toks := tk₁, gens := gs₁ })
    (done : ∀ h₁ tk₁ gs₁ m' news', J x.cps.size m' news' → (∀ p ∈ news', p.1 < Lg) → Fr h₀ L h₁ m' → News h₀ L h₁ news' → (AllBare ga → AllBare gs₁) → Q .next { s with heap := h₁, toks := tk₁, gens := gs₁ }) :
    codeAny (model prog w) A (.forLoop target (.ref G) body [] env) (fun r s' => match r with | .ok f => Q f s' | .error e => cameBackBy (model prog w) A env E e s') s := by
  subst hLe
  obtain ⟨oL, es, ep, hoL, hL1, hL2, hL3⟩ := hns
  have hGg := (N _ (.head _)).1
  refine gen_for (x := x) (t := t) (G := G) (og := og) (gst₀ := .fresh (.func (escBody w.params) (envOf (escQual w.params) (escScope w.params) Lg 200 (escCode w.params)))) (own₀ := [(G, og), (Lg, oL)]) (g := ga.size) (ga := ga) (m := m) (news := news) J hh hroom hE T.nolimit hsz hL (fun h hg => ?_) (by rw [hgs]; exact Array.getElem?_push_size ..) (fun hb => by rw [hgs]; exact hb.push rfl) ⟨rfl, ?_⟩ (.head _) F (fun q hq => ?_) hlow J0 step done
  · obtain ⟨o, nm, qn, ho, r⟩ := hgen
    rw [hGg] at ho
    have e : og = o := Option.some.inj ho
    rw [← e] at r
    exact ⟨og, nm, qn, hg, r⟩
  · intro s'' ho hb
    refine ⟨rfl, ?_⟩
    exact esc_seg (A := A.in1) hh X T hx hx8 s'' ⟨oL, es, ep, ho (Lg, oL) (.tail _ (.head _)), hL1, hL2, hL3⟩ hsz hb hLG (ho (G, og) (.head _))
  · rcases List.mem_cons.mp hq with rfl | hq
    · exact N _ (.head _)
    rcases List.mem_cons.mp hq with rfl | hq
    · exact ⟨hoL, Nat.ne_of_gt hL, Heap.get?_none_of_le hsz⟩
    · exact N _ (.tail _ hq)

-- NEEDS: p00_head p02_ledger p02b_loops p02c_comps p02d_setall p03_tells p09_spelled p13_set p14_add p19a_seg p19b_gen p19c_for
/-- as Tells, where generators may run -/
noncomputable def TellsG (prog : Program) (w : World) (p : Program) (loose : List Str) (mean : ExcName → Option Value) (mg mb : Str → Option Value) (dd uu : Nat) (f : Value) (args : List Value) (kw : List (Str × Value)) (news : Ledger) (Post : Value → Ledger → Prop) : Prop :=
  ∀ (dp un : Nat) (gd : Option (List Code)) (cn : Str) (cs : Scope) (a : Addr) (ccd : Value) (cl : List (Str × Addr)) (outer : List Env) (A₀ : Around) (base h₀ : Heap) (L : Addr) (m : Str → Option Value) (s : Shared) (Q E : Value → Shared → Prop),
    Below A₀ base outer h₀ → Fr h₀ L s.heap m → (Mine.hd.heap_1 w.params).In h₀ → News h₀ L s.heap news → Top p loose mean mg mb h₀ → cs.kind = .function → dp + dd < recursionLimit → un + uu < cLine →
    (∀ r news' h' tk' gs', Post r news' → (AllBare s.gens → AllBare gs') → Fr h₀ L h' m → News h₀ L h' news' → Q r { s with heap := h', toks := tk', gens := gs' }) →
    wpAny (model prog w) (ktrTop dp un gd cn cs L a ccd cl outer) (call f args kw) Q E s
structure SS where
  start : Nat
  opn : Option Nat
  res : List Str
noncomputable def ssStep (x : Str) (st : SS) (i c : Nat) : SS := if c = 34 then (match st.opn with | none => ⟨st.start, some i, st.res⟩ | some o => ⟨i + 1, none, if st.start = o then st.res else st.res ++ [Txt.slice x (some (st.start : Nat)) (some (o : Nat))]⟩) else st
noncomputable def ssAt (x : Str) : Nat → SS
  | 0 => ⟨0, none, []⟩
  | i + 1 => match x.cps[i]? with | some c => ssStep x (ssAt x i) i c | none => ssAt x i
theorem ssAt_succ {x : Str} {i c : Nat} (hc : x.cps[i]? = some c) : ssAt x (i + 1) = ssStep x (ssAt x i) i c := by
  rw [ssAt, hc]
theorem quote_eq {c : Nat} (h : (({ cps := #[c] } : Str) == Str.ofString "\"") = true) : c = 34 := by
  have e := beq_iff_eq.mp h
  have e2 : (#[c] : Array Nat) = (Str.ofString "\"").cps := congrArg Str.cps e
  rw [show (Str.ofString "\"").cps = #[34] by decide +kernel] at e2
  simpa using e2
theorem quote_ne {c : Nat} (h : (({ cps := #[c] } : Str) == Str.ofString "\"") = false) : c ≠ 34 := by
  intro e
  subst e
  exact absurd h (by decide +kernel)
theorem putAt_low {lr Lg : Addr} {o : Obj} {news : Ledger} (h : ∀ p ∈ news, p.1 < Lg) : ∀ p ∈ putAt lr o news, p.1 < Lg := by
  intro p hp
  rcases of_mem_putAt hp with ⟨h1, _, o', h3⟩ | ⟨_, h2⟩
  · rw [h1]; exact h _ h3
  · exact h p h2
theorem ssAt_le {x : Str} : ∀ i, ∀ y ∈ (ssAt x i).res, y.length ≤ x.length
  | 0, y, h => nomatch h
  | i + 1, y, h => by
    rw [ssAt] at h
    split at h
    · unfold ssStep at h
      split at h
      · split at h
        · exact ssAt_le i y h
        · dsimp only at h
          split at h
          · exact ssAt_le i y h
          · rcases List.mem_append.mp h with h | h
            · exact ssAt_le i y h
            · rw [List.mem_singleton.mp h]; exact Txt.slice_le ..
      · exact ssAt_le i y h
    · exact ssAt_le i y h
theorem sum_le {l : List Str} {k : Nat} (h : ∀ y ∈ l, y.length ≤ k) : (l.map (·.length)).sum ≤ k * l.length := by
  induction l with
  | nil => simp
  | cons a r ih =>
    have h1 := h a (.head _)
    have h2 := ih fun y hy => h y (.tail _ hy)
    simp only [List.map_cons, List.sum_cons, List.length_cons, Nat.mul_add, Nat.mul_one]
    omega
theorem join_room {l : List Str} (h : ∀ y ∈ l, y.length ≤ 1000) (hl : l.length ≤ 1001) : (l.map (·.length)).sum + l.length ≤ 1048576 := by
  have h1 := sum_le h
  have h2 : 1000 * l.length ≤ 1000 * 1001 := Nat.mul_le_mul_left _ hl
  omega
noncomputable def stripRes (x : Str) : List Str := if (ssAt x x.cps.size).start < x.length then (ssAt x x.cps.size).res ++ [Txt.slice x (some ((ssAt x x.cps.size).start : Nat)) none] else (ssAt x x.cps.size).res
noncomputable def stripped (x : Str) : Str := Txt.join (Str.ofString "") (stripRes x)
noncomputable def stripJ (x : Str) (t : Tok) (news : Ledger) (i : Nat) (m' : Str → Option Value) (n' : Ledger) : Prop :=
  ∃ lr vs n, (lr, listOf vs.toArray n) ∈ n' ∧ (∀ p ∈ news, p ∈ n' ∧ p.1 ≠ lr) ∧ StrsAre vs (ssAt x i).res ∧ (ssAt x i).res.length ≤ i ∧ (∃ t', m' (Str.ofString "start") = some (.int ((ssAt x i).start : Nat) t')) ∧ (match (ssAt x i).opn with | none => m' (Str.ofString "open_pos") = some .none | some o => ∃ t', m' (Str.ofString "open_pos") = some (.int (o : Nat) t')) ∧
      m' (Str.ofString "result") = some (.ref lr) ∧ m' (Str.ofString "addr") = some (.str x t)
section
local macro_rules | `(tactic| walk_at "exec For Tuple Call cons nil") => `(tactic| (k_here; refine Hold.out ?_))
local macro_rules | `(tactic| walk_at "call ref") => `(tactic| (k_here; (with_reducible show wpAny _ _ (call (Value.ref 200) _ _) _ _ _); k_dflt (refine' gen_call ?r ?F ?X ?N ?T ?_; (case r => ktr_room); (case F => k_asm); (case X => k_asm); (case N => k_asm); (case T => k_asm)); intro Lg G og h' tk F' N' hns hgen hlow hL hLG hsz))
local macro_rules | `(tactic| walk_at "call builtin:str.join") => `(tactic| (k_here; refine Hold.out ?_))
local macro_rules | `(tactic| walk_at "pyIter ref") => `(tactic| (k_here; k_dflt (refine wpAny_pyIter_gen (by assumption) ?_)))
local macro_rules | `(tactic| walk_at "call builtin:list.append") => `(tactic| walk_at "m append")
set_option maxHeartbeats 0 in
theorem strip_tells {prog : Program} {w : World} {p : Program} {loose : List Str} {mean : ExcName → Option Value} {mg mb : Str → Option Value} {x : Str} {t : Tok} {news : Ledger} (hx : ∀ c ∈ x.cps, c < 128 ∧ c ≠ 92) (hx8 : x.cps.all (· < 128) = true) (hlen : x.length ≤ 1000) :
    TellsG prog w p loose mean mg mb 8 90 (.ref 207) [.str x t] [] news (fun r news' => news' = news ∧ ∃ y t', r = .str y t' ∧ (((Builtin.Str.occurrences x (Str.ofString "\"") 0 x.length 1).isEmpty = true ∧ y = x) ∨ y = stripped x)) := by
  intro dp un gd cn cs a ccd cl outer A₀ base h₀ L m s Q E B F X N T hk hd hu hret
  walk_at "m enter"
  k_steps
  · exact hret _ _ _ _ _ ⟨rfl, x, _, rfl, .inl ⟨by assumption, rfl⟩⟩ id (by k_asm) (by k_asm)
  refine comp_start (wpAny_For ?_ (fun _ => rfl))
  k_steps
  (rename Fr _ _ _ _ => F₂); (rename News _ _ _ _ => N₂); (rename Heap.IsGen _ _ _ => hgen); (rename Heap.Ns _ _ _ => hns); (rename (∀ p : Addr × Obj, p ∈ _ → p.1 < _) => hlow); (rename (_ ≤ _) => hsz)
  have hx9 : x.cps.size ≤ 1000 := hlen
  (rename (∀ p : Addr × Obj, p ∈ news → p.1 < _) => hnl); (rename Top _ _ _ _ _ _ => T₂); (rename Frag.In _ _ => X₂)
  refine' gen_for0 (ga := s.gens) (stripJ x t news) rfl ?hh ?hroom ?hE X₂ T₂ hx hx8 F₂ N₂ hns hgen hlow (by assumption) (by assumption) hsz rfl ?J0 ?step ?done
  case J0 => exact ⟨_, [], _, .head _, fun p hp => ⟨.tail _ hp, Nat.ne_of_lt (hnl p hp)⟩, .nil, Nat.le_refl _, ⟨_, rfl⟩, rfl, rfl, rfl⟩
  case hroom => ktr_room
  case hE => passes_own
  case hh => exact rfl
  case step =>
    intro i c m₁ news₁ e it oe oi oL T' u₁ u₂ k h₁ tk₁ gs₁ hc hJ hlow₁ hlt F₃ N₃ hgb
    obtain ⟨lr, vs, n, hl, hnews, hvs, hrl, ⟨t1, hm1⟩, hm2, hm3, hm4⟩ := hJ
    have hi := (Array.getElem?_eq_some_iff.mp hc).1
    have hvl : vs.length ≤ 1000 := by rw [hvs.length]; omega
    have hlrl : lr < _ := hlow₁ _ hl
    cases hop : (ssAt x i).opn with
    | none =>
      rw [hop] at hm2
      dsimp only at hm2
      k_steps
      · (rename (_ == _) = true => hb); (rename Fr _ _ _ _ => F₄); (rename News _ _ _ _ => N₄)
        have e1 : ssAt x (i + 1) = ⟨(ssAt x i).start, some i, (ssAt x i).res⟩ := by rw [ssAt_succ hc, ssStep, if_pos (quote_eq hb), hop]
        exact ⟨_, _, _, news₁, rfl, F₄, cb_drop N₄ fun p hp => .tail _ hp, hlow₁, lr, vs, n, hl, hnews, by rw [e1]; exact hvs, by rw [e1]; exact Nat.le_succ_of_le hrl, by rw [e1]; exact ⟨_, hm1⟩, by rw [e1]; exact ⟨_, rfl⟩, hm3, hm4⟩
      · (rename (_ == _) = false => hb); (rename Fr _ _ _ _ => F₄); (rename News _ _ _ _ => N₄)
        have e1 : ssAt x (i + 1) = ssAt x i := by rw [ssAt_succ hc, ssStep, if_neg (quote_ne hb)]
        exact ⟨_, _, _, news₁, rfl, F₄, cb_drop N₄ fun p hp => .tail _ hp, hlow₁, lr, vs, n, hl, hnews, by rw [e1]; exact hvs, by rw [e1]; exact Nat.le_succ_of_le hrl, by rw [e1]; exact ⟨_, hm1⟩, by rw [e1, hop]; exact hm2, hm3, hm4⟩
    | some o =>
      rw [hop] at hm2
      obtain ⟨t2, hm2⟩ := hm2
      k_steps
      · (rename (_ == _) = true => hb); (rename Fr _ _ _ _ => F₄); (rename News _ _ _ _ => N₄); (rename (∀ p : Addr × Obj, p ∈ _ → p.2.cls ≠ _ → p.1 ≠ lr) => hAp); (rename ((ssAt x i).start : Int) ≠ _ => hne)
        have e1 : ssAt x (i + 1) = ⟨i + 1, none, (ssAt x i).res ++ [Txt.slice x (some ((ssAt x i).start : Nat)) (some (o : Nat))]⟩ := by
          rw [ssAt_succ hc, ssStep, if_pos (quote_eq hb), hop]
          dsimp only
          rw [if_neg (by omega)]
        rw [List.push_toArray] at N₄
        obtain ⟨tq, N₄⟩ : ∃ tq, News _ _ _ (putAt lr (listOf (vs ++ [Value.str (Txt.slice x (some ((ssAt x i).start : Nat)) (some (o : Nat))) tq]).toArray (n + 1)) _) := ⟨_, N₄⟩
        refine ⟨_, _, _, putAt lr (listOf (vs ++ [Value.str (Txt.slice x (some ((ssAt x i).start : Nat)) (some (o : Nat))) tq]).toArray (n + 1)) news₁, rfl, F₄, fun p hp => ?_, putAt_low hlow₁, lr, vs ++ [Value.str (Txt.slice x (some ((ssAt x i).start : Nat)) (some (o : Nat))) tq], n + 1, mem_putAt_self hl, fun p hp => ⟨mem_putAt_ne (hnews p hp).1 (hnews p hp).2, (hnews p hp).2⟩, by rw [e1]; exact kct_snoc hvs, by rw [e1, List.length_append, List.length_singleton]; exact Nat.succ_le_succ hrl, by rw [e1]; exact ⟨_, rfl⟩, by rw [e1]; exact rfl, hm3, hm4⟩
        obtain ⟨q1, q2, q3, q4, q5⟩ := hlt
        refine N₄ p ?_
        rcases List.mem_append.mp hp with hp | hp
        · simp only [List.mem_cons, List.not_mem_nil, or_false] at hp
          rcases hp with rfl | rfl | rfl | rfl
          · exact mem_putAt_ne (.tail _ (.head _)) (Nat.ne_of_gt (Nat.lt_trans hlrl (Nat.lt_trans q1 q2)))
          · exact mem_putAt_ne (.tail _ (.tail _ (.head _))) (Nat.ne_of_gt (Nat.lt_trans hlrl q1))
          · exact mem_putAt_ne (.tail _ (.tail _ (.tail _ (.head _)))) (Nat.ne_of_gt (Nat.lt_trans hlrl q4))
          · exact mem_putAt_ne (.tail _ (.tail _ (.tail _ (.tail _ (.head _))))) (Nat.ne_of_gt hlrl)
        · exact putAt_tail _ (putAt_tail _ (putAt_tail _ (putAt_tail _ (putAt_tail _ hp))))
      · (rename (_ == _) = true => hb); (rename Fr _ _ _ _ => F₄); (rename News _ _ _ _ => N₄); (rename ((ssAt x i).start : Int) = _ => heq)
        have e1 : ssAt x (i + 1) = ⟨i + 1, none, (ssAt x i).res⟩ := by
          rw [ssAt_succ hc, ssStep, if_pos (quote_eq hb), hop]
          dsimp only
          rw [if_pos (by omega)]
        exact ⟨_, _, _, news₁, rfl, F₄, cb_drop N₄ fun p hp => .tail _ hp, hlow₁, lr, vs, n, hl, hnews, by rw [e1]; exact hvs, by rw [e1]; exact Nat.le_succ_of_le hrl, by rw [e1]; exact ⟨_, rfl⟩, by rw [e1]; exact rfl, hm3, hm4⟩
      · (rename (_ == _) = false => hb); (rename Fr _ _ _ _ => F₄); (rename News _ _ _ _ => N₄)
        have e1 : ssAt x (i + 1) = ssAt x i := by rw [ssAt_succ hc, ssStep, if_neg (quote_ne hb)]
        exact ⟨_, _, _, news₁, rfl, F₄, cb_drop N₄ fun p hp => .tail _ hp, hlow₁, lr, vs, n, hl, hnews, by rw [e1]; exact hvs, by rw [e1]; exact Nat.le_succ_of_le hrl, by rw [e1]; exact ⟨_, hm1⟩, by rw [e1, hop]; exact ⟨_, hm2⟩, hm3, hm4⟩
  case done =>
    intro h₁ tk₁ gs₁ m' news' hJ hlow' F₅ N₅ hgb
    obtain ⟨lr, vs, n, hl, hnews, hvs, hrl, ⟨t1, hm1⟩, hm2, hm3, hm4⟩ := hJ
    have hvl : vs.length ≤ 1000 := by rw [hvs.length]; omega
    have hr1 : ∀ y ∈ (ssAt x x.cps.size).res, y.length ≤ 1000 := fun y hy => Nat.le_trans (ssAt_le _ y hy) hlen
    k_steps
    · (rename News _ _ _ _ => N₆); (rename (_ < (x.length : Int)) => hst)
      have hres : stripRes x = _ := if_pos (by omega)
      refine comp_start (join_listW (ys := stripRes x) ⟨_, (N₆ _ (mem_putAt_self hl)).1, rfl, _, rfl⟩ ?_ (by decide +kernel) ?_ ?_)
      · rw [hres]
        simpa using kct_snoc hvs
      · rw [hres]
        exact join_room (fun y hy => by
          rcases List.mem_append.mp hy with hy | hy
          · exact hr1 y hy
          · rw [List.mem_singleton.mp hy]; exact Nat.le_trans (Txt.slice_le ..) hlen) (by rw [List.length_append, List.length_singleton]; omega)
      intro _ _
      k_steps
      exact hret _ _ _ _ _ ⟨rfl, _, _, rfl, .inr rfl⟩ hgb (by k_asm) (cb_drop (by k_asm) fun p hp => mem_putAt_ne (hnews p hp).1 (hnews p hp).2)
    · (rename News _ _ _ _ => N₆); (rename (¬ _ < (x.length : Int)) => hst)
      have hres : stripRes x = _ := if_neg (by omega)
      refine comp_start (join_listW (News.isList (by k_asm) hl) hvs (by decide +kernel) (join_room hr1 (by omega)) ?_)
      intro _ _
      k_steps
      exact hret _ _ _ _ _ ⟨rfl, _, _, rfl, .inr (by rw [stripped, hres])⟩ hgb (by k_asm) (cb_drop (by k_asm) fun p hp => (hnews p hp).1)
end

-- NEEDS: p00_head p02_ledger p02b_loops p02c_comps p02d_setall p03_tells p09_spelled p13_set p14_add p19a_seg p19b_gen p19c_for p19d_strip
/-- the open parentheses after the signs; none where they fall below nought -/
noncomputable def opensOf : List Nat → Int → Option Int
  | [], o => some o
  | c :: r, o => if c = 40 then opensOf r (o + 1) else if c = 41 then (if o - 1 < 0 then none else opensOf r (o - 1)) else opensOf r o
noncomputable def checkOf (y : Str) : Bool := match opensOf y.cps.toList 0 with | some o => decide (o = 0) | none => false
theorem opensOf_snoc : ∀ (l : List Nat) (o : Int) (c : Nat), opensOf (l ++ [c]) o = (opensOf l o).bind fun o' => opensOf [c] o'
  | [], _, _ => rfl
  | d :: r, o, c => by
    rw [List.cons_append, opensOf, opensOf]
    split
    · exact opensOf_snoc r _ c
    · split
      · split
        · rfl
        · exact opensOf_snoc r _ c
      · exact opensOf_snoc r _ c
theorem opens_at {y : Str} {i c : Nat} {o : Int} (hc : y.cps[i]? = some c) (ho : opensOf (y.cps.toList.take i) 0 = some o) : opensOf (y.cps.toList.take (i + 1)) 0 = opensOf [c] o := by
  rw [List.take_add_one, Array.getElem?_toList, hc, Option.toList_some, opensOf_snoc, ho]
  rfl
theorem paren_eq {c : Nat} (h : (({ cps := #[c] } : Str) == Str.ofString "(") = true) : c = 40 := by
  have e2 : (#[c] : Array Nat) = (Str.ofString "(").cps := congrArg Str.cps (beq_iff_eq.mp h)
  rw [show (Str.ofString "(").cps = #[40] by decide +kernel] at e2
  simpa using e2
theorem paren_ne {c : Nat} (h : (({ cps := #[c] } : Str) == Str.ofString "(") = false) : c ≠ 40 := by
  intro e; subst e; exact absurd h (by decide +kernel)
theorem close_eq {c : Nat} (h : (({ cps := #[c] } : Str) == Str.ofString ")") = true) : c = 41 := by
  have e2 : (#[c] : Array Nat) = (Str.ofString ")").cps := congrArg Str.cps (beq_iff_eq.mp h)
  rw [show (Str.ofString ")").cps = #[41] by decide +kernel] at e2
  simpa using e2
theorem close_ne {c : Nat} (h : (({ cps := #[c] } : Str) == Str.ofString ")") = false) : c ≠ 41 := by
  intro e; subst e; exact absurd h (by decide +kernel)
theorem opensOf_append : ∀ (l r : List Nat) (o : Int), opensOf (l ++ r) o = (opensOf l o).bind (opensOf r)
  | [], _, _ => rfl
  | d :: l, r, o => by
    rw [List.cons_append, opensOf, opensOf]
    split
    · exact opensOf_append l r _
    · split
      · split
        · rfl
        · exact opensOf_append l r _
      · exact opensOf_append l r _
theorem check_neg {y : Str} {i : Nat} (h : opensOf (y.cps.toList.take i) 0 = none) : checkOf y = false := by
  have e : opensOf (y.cps.toList.take i ++ y.cps.toList.drop i) 0 = none := by rw [opensOf_append, h]; rfl
  rw [List.take_append_drop] at e
  rw [checkOf, e]
theorem TellsG.use {prog : Program} {w : World} {p : Program} {loose : List Str} {mean : ExcName → Option Value} {mg mb : Str → Option Value} {dd uu : Nat} {f : Value} {args : List Value} {kw : List (Str × Value)} {news : Ledger} {Post : Value → Ledger → Prop}
    {dp un : Nat} {gd : Option (List Code)} {cn : Str} {cs : Scope} {a : Addr} {ccd : Value} {cl : List (Str × Addr)} {outer : List Env} {A₀ : Around} {base h₀ : Heap} {L : Addr} {m : Str → Option Value} {s : Shared} {Q E : Value → Shared → Prop}
    (B : Below A₀ base outer h₀) (F : Fr h₀ L s.heap m) (X : (Mine.hd.heap_1 w.params).In h₀) (N : News h₀ L s.heap news) (T : Top p loose mean mg mb h₀) (hk : cs.kind = .function) (C : TellsG prog w p loose mean mg mb dd uu f args kw news Post) (hd : dp + dd < recursionLimit) (hu : un + uu < cLine)
    (ret : ∀ r news' h' tk' gs', Post r news' → (AllBare s.gens → AllBare gs') → Fr h₀ L h' m → News h₀ L h' news' → Q r { s with heap := h', toks := tk', gens := gs' }) :
    wpAny (model prog w) (ktrTop dp un gd cn cs L a ccd cl outer) (call f args kw) Q E s := C _ _ _ _ _ _ _ _ _ _ _ _ _ _ _ _ _ B F X N T hk hd hu ret
section
local macro_rules | `(tactic| walk_at "m none") => `(tactic| skip)
local macro_rules | `(tactic| walk_at "exec For Tuple Call cons nil") => `(tactic| (k_here; refine Hold.out ?_))
local macro_rules | `(tactic| walk_at "call ref") => `(tactic| (k_here; (with_reducible show wpAny _ _ (call (Value.ref 200) _ _) _ _ _); k_dflt (refine' gen_call ?r ?F ?X ?N ?T ?_; (case r => ktr_room); (case F => k_asm); (case X => k_asm); (case N => k_asm); (case T => k_asm)); intro Lg G og h' tk F' N' hns hgen hlow hL hLG hsz))
local macro_rules | `(tactic| walk_at "call ref") => `(tactic| (k_here; (with_reducible show wpAny _ _ (call (Value.ref 207) _ _) _ _ _); k_dflt (refine' TellsG.use ?k1 ?k2 ?k3 ?k4 ?k5 ?kK (strip_tells ?x ?y ?z) ?kd ?ku ?_; walk_at "m sides"; (case x => assumption); (case y => assumption); (case z => assumption); (intro r' n' h' tk' gs' hP' hgb' F' N'; obtain ⟨e1', y, t', e2', hy'⟩ := hP'; replace e1' := Eq.symm e1'; subst e1'; subst e2'); walk_at "m tail")))
local macro_rules | `(tactic| walk_at "loadName") => `(tactic| walk_at "m load")
local macro_rules | `(tactic| walk_at "pyIter ref") => `(tactic| (k_here; k_dflt (refine wpAny_pyIter_gen (by assumption) ?_)))
set_option maxHeartbeats 0 in
theorem check_tells {prog : Program} {w : World} {p : Program} {loose : List Str} {mean : ExcName → Option Value} {mg mb : Str → Option Value} {x : Str} {t : Tok} {news : Ledger} (hx : ∀ c ∈ x.cps, c < 128 ∧ c ≠ 92) (hx8 : x.cps.all (· < 128) = true) (hlen : x.length ≤ 1000) (hs : ∀ c ∈ (stripped x).cps, c < 128 ∧ c ≠ 92) (hs8 : (stripped x).cps.all (· < 128) = true) (hsl : (stripped x).cps.size ≤ 1000000) :
    TellsG prog w p loose mean mg mb 12 150 (.ref 214) [.str x t] [] news (fun r news' => news' = news ∧ ∃ y, (((Builtin.Str.occurrences x (Str.ofString "\"") 0 x.length 1).isEmpty = true ∧ y = x) ∨ y = stripped x) ∧ r = .bool (checkOf y)) := by
  intro dp un gd cn cs a ccd cl outer A₀ base h₀ L m s Q E B F X N T hk hd hu hret
  walk_at "m enter"
  k_steps
  refine comp_start (wpAny_For ?_ (fun _ => rfl))
  k_steps
  (rename Fr _ _ _ _ => F₂); (rename News _ _ _ _ => N₂); (rename Heap.IsGen _ _ _ => hgen); (rename Heap.Ns _ _ _ => hns); (rename (∀ p : Addr × Obj, p ∈ _ → p.1 < _) => hlow); (rename (_ ≤ _) => hsz)
  (rename Top _ _ _ _ _ _ => T₂); (rename Frag.In _ _ => X₂); (rename (_ ∨ _) => hy); (rename (AllBare s.gens → _) => hgb₁); (rename Str => y)
  have hyx : ∀ c ∈ y.cps, c < 128 ∧ c ≠ 92 := by rcases hy with ⟨_, rfl⟩ | rfl <;> assumption
  have hy8 : y.cps.all (· < 128) = true := by rcases hy with ⟨_, rfl⟩ | rfl <;> assumption
  refine' gen_for0 (fun i m' n' => n' = news ∧ ∃ o : Int, opensOf (y.cps.toList.take i) 0 = some o ∧ 0 ≤ o ∧ o ≤ i ∧ ∃ t', m' (Str.ofString "opens") = some (.int o t')) rfl ?hh ?hroom ?hE X₂ T₂ hyx hy8 F₂ N₂ hns hgen hlow (by assumption) (by assumption) hsz rfl ?J0 ?step ?done
  case J0 => exact ⟨rfl, 0, rfl, by omega, by omega, ⟨_, rfl⟩⟩
  case hroom => ktr_room
  case hE => passes_own
  case hh => exact rfl
  case step =>
    intro i c m₁ news₁ e it oe oi oL T' u₁ u₂ k h₁ tk₁ gs₁ hc hJ hlow₁ hlt F₃ N₃ hgb
    obtain ⟨e1, o, ho, ho0, ho1, t1, hm1⟩ := hJ
    subst e1
    have hi := (Array.getElem?_eq_some_iff.mp hc).1
    have hyl : y.cps.size ≤ 1000000 := by
      rcases hy with ⟨_, rfl⟩ | rfl
      · exact Nat.le_trans hlen (by decide)
      · exact hsl
    k_steps
    · (rename (_ == _) = true => hb); (rename Fr _ _ _ _ => F₄); (rename News _ _ _ _ => N₄)
      exact ⟨_, _, _, news₁, rfl, F₄, cb_drop N₄ fun p hp => .tail _ hp, hlow₁, rfl, o + 1, by rw [opens_at hc ho, opensOf, if_pos (paren_eq hb)]; rfl, by omega, by omega, ⟨_, rfl⟩⟩
    · (rename _ < (0 : Int) => hneg); (rename (_ == Str.ofString ")") = true => hb2); (rename (_ == Str.ofString "(") = false => hb)
      have hcf : checkOf y = false := check_neg (i := i + 1) (by rw [opens_at hc ho, opensOf, if_neg (paren_ne hb), if_pos (close_eq hb2), if_pos hneg])
      dsimp only
      unfold GStep
      dsimp only
      k_steps
      exact hret _ _ _ _ _ ⟨rfl, y, hy, by rw [hcf]⟩ (fun h => hgb (hgb₁ h)) (by k_asm) (cb_drop (by k_asm) fun p hp => .tail _ (.tail _ (.tail _ (.tail _ (.tail _ hp)))))
    · (rename ¬ _ < (0 : Int) => hnn); (rename (_ == Str.ofString ")") = true => hb2); (rename (_ == Str.ofString "(") = false => hb); (rename Fr _ _ _ _ => F₄); (rename News _ _ _ _ => N₄)
      exact ⟨_, _, _, news₁, rfl, F₄, cb_drop N₄ fun p hp => .tail _ hp, hlow₁, rfl, o - 1, by rw [opens_at hc ho, opensOf, if_neg (paren_ne hb), if_pos (close_eq hb2), if_neg hnn]; rfl, by omega, by omega, ⟨_, rfl⟩⟩
    · (rename (_ == Str.ofString ")") = false => hb2); (rename (_ == Str.ofString "(") = false => hb); (rename Fr _ _ _ _ => F₄); (rename News _ _ _ _ => N₄)
      exact ⟨_, _, _, news₁, rfl, F₄, cb_drop N₄ fun p hp => .tail _ hp, hlow₁, rfl, o, by rw [opens_at hc ho, opensOf, if_neg (paren_ne hb), if_neg (close_ne hb2)]; rfl, by omega, by omega, ⟨_, hm1⟩⟩
  case done =>
    intro h₁ tk₁ gs₁ m' news' hJ hlow' F₅ N₅ hgb
    obtain ⟨e1, o, ho, ho0, ho1, t1, hm1⟩ := hJ
    subst e1
    k_steps
    rw [← Array.length_toList, List.take_length] at ho
    exact hret _ _ _ _ _ ⟨rfl, y, hy, by rw [checkOf, ho]; congr 1⟩ (fun h => hgb (hgb₁ h)) (by k_asm) (by k_asm)
end

-- NEEDS: p00_head p02_ledger p02b_loops p02c_comps p03_tells p09_spelled
noncomputable def dots : Str := Str.ofString "..."
theorem dots_cps : dots.cps = #[46, 46, 46] := by decide +kernel
theorem dots_at {x : Str} {i : Nat} (h : StrLaws.At x dots x.length i) : x.cps[i]? = some 46 := by
  obtain ⟨h1, h2⟩ := h
  have e : x.cps.extract i (i + dots.length) = dots.cps := by simpa [Builtin.Str.subAt] using h2
  have e0 : (x.cps.extract i (i + dots.length))[0]? = some 46 := by rw [e, dots_cps]; rfl
  have h1' : i + 3 ≤ x.cps.size := h1
  rw [Array.getElem?_extract] at e0
  have : dots.length = 3 := by decide +kernel
  rw [this] at e0
  simpa [show (0 : Nat) < min (i + 3) x.cps.size - i by omega] using e0
theorem at_dots (one : Str) : StrLaws.At (one ++ dots) dots (one ++ dots).length one.length := by
  have hl : (one ++ dots).length = one.length + dots.length := by show (one.cps ++ dots.cps).size = _; rw [Array.size_append]; rfl
  refine ⟨by omega, ?_⟩
  show ((one.cps ++ dots.cps).extract one.cps.size (one.cps.size + dots.cps.size) == dots.cps) = true
  rw [beq_iff_eq]
  simp
theorem no_at {one : Str} (h : ∀ c ∈ one.cps, c ≠ 46) {k : Nat} (hk : k < one.length) : ¬ StrLaws.At (one ++ dots) dots (one ++ dots).length k := by
  intro hA
  have e := dots_at hA
  have e' : (one.cps ++ dots.cps)[k]? = some 46 := e
  rw [Array.getElem?_append_left hk] at e'
  exact h 46 (Array.mem_of_getElem? e') rfl
theorem occ_dots {one : Str} (h : ∀ c ∈ one.cps, c ≠ 46) : Builtin.Str.occurrences (one ++ dots) dots 0 (one ++ dots).length ((one ++ dots).length + 1) = [one.length] := by
  have hl : (one ++ dots).length = one.length + 3 := by show (one.cps ++ dots.cps).size = _; rw [Array.size_append, dots_cps]; rfl
  have hd : dots.length = 3 := by decide +kernel
  obtain ⟨f, hc, hn⟩ := StrLaws.occ_tight (one ++ dots) dots (by omega)
  generalize Builtin.Str.occurrences (one ++ dots) dots 0 (one ++ dots).length ((one ++ dots).length + 1) = cuts at hc ⊢
  cases cuts with
  | nil =>
    have e : f = 0 := hc
    subst e
    exact absurd (at_dots one) (hn _ (Nat.zero_le _))
  | cons c r =>
    obtain ⟨_, hA, hno, hr⟩ := hc
    have hc1 : c + 3 ≤ one.length + 3 := by have := hA.1; omega
    have hc2 : ¬ c < one.length := fun hk => no_at h hk hA
    have ec : c = one.length := by omega
    subst ec
    cases r with
    | nil => rfl
    | cons d r' =>
      obtain ⟨hd1, hA', _⟩ := hr
      have := hA'.1
      omega
theorem split_dots {one : Str} (h : ∀ c ∈ one.cps, c ≠ 46 ∧ c < 128) : Txt.split (one ++ dots) dots = [one, Str.empty] := by
  have hl : (one ++ dots).length = one.length + 3 := by show (one.cps ++ dots.cps).size = _; rw [Array.size_append, dots_cps]; rfl
  have hd : dots.length = 3 := by decide +kernel
  unfold Txt.split
  rw [if_neg, occ_dots (fun c hc => (h c hc).1)]
  · show Builtin.Str.partsBetween _ _ _ = _
    rw [StrLaws.partsBetween_eq]
    show [Builtin.Str.strSub _ 0 one.length, Builtin.Str.strSub _ (one.length + dots.length) (one ++ dots).length] = _
    have e1 : Builtin.Str.strSub (one ++ dots) 0 one.length = one := by
      show (⟨(one.cps ++ dots.cps).extract 0 one.cps.size⟩ : Str) = one
      rw [Array.extract_append_left]; simp
    have e2 : Builtin.Str.strSub (one ++ dots) (one.length + dots.length) (one ++ dots).length = Str.empty := by
      rw [hl, hd]
      show (⟨(one.cps ++ dots.cps).extract (one.length + 3) (one.length + 3)⟩ : Str) = Str.empty
      rw [Array.extract_empty_of_stop_le_start (Nat.le_refl _)]; rfl
    rw [e1, e2]
  · rw [Bool.or_eq_true, decide_eq_true_eq, decide_eq_true_eq]
    intro hh
    rcases hh with hh | hh
    · omega
    · rw [show Builtin.Str.strKind dots = 1 by decide +kernel] at hh
      have : 1 ≤ Builtin.Str.strKind (one ++ dots) := by
        unfold Builtin.Str.strKind
        split
        · exact Nat.le_refl 1
        · split <;> decide
      omega
theorem has_dots (one : Str) : Txt.contains (one ++ dots) dots = true := by
  unfold Txt.contains
  rcases StrLaws.occ_head (one ++ dots) dots 1 (Nat.le_refl _) with ⟨_, h⟩ | ⟨i, r, e, _⟩
  · exact absurd (at_dots one) (h _)
  · rw [e]; rfl

section
theorem split_dotsN {prog : Program} {w : World} {A : Around} {E : Value → Shared → Prop} {s : Shared} {one : Str} {t u : Tok} {h₀ : Heap} {L : Addr} {m : Str → Option Value} {news : Ledger} {Q : Value → Shared → Prop} (h1 : ∀ c ∈ one.cps, c ≠ 46 ∧ c < 128) (hl : one.length ≤ 1000) (F : Fr h₀ L s.heap m) (N : News h₀ L s.heap news)
    (h : ∀ D h' k ta tb, Fr h₀ L h' m → News h₀ L h' ((D, listOf #[.str one ta, .str Str.empty tb] 0) :: news) → (∀ p ∈ news, p.1 < D) → Q (.ref D) { s with heap := h', toks := k }) : wpAny (model prog w) A (call (.builtin "str.split") [.str (one ++ dots) t, .str dots u]) Q E s := by
  have hd : dots.length = 3 := by decide +kernel
  have hl' : (one ++ dots).length = one.length + 3 := by show (one.cps ++ dots.cps).size = _; rw [Array.size_append, dots_cps]; rfl
  refine splitN1 (hsz := ?_) F N (by rw [hd]; rfl) fun l h' k e F' N' => ?_
  case refine_2 => rw [sizeLine_eq]; omega
  · rw [split_dots h1] at e
    match l, e with
    | [(a, ta), (b, tb)], e =>
      simp only [List.map_cons, List.map_nil, List.cons.injEq, and_true] at e
      obtain ⟨e1, e2⟩ := e
      subst e1; subst e2
      exact h _ h' k ta tb F' N' fun p hp => Heap.lt_size (N p hp).1
theorem starts_le {rest one : Str} (h : (rest.length : Int) < (one.length : Int)) : Txt.startswith rest one = false := by
  unfold Txt.startswith
  rw [decide_eq_false (by omega)]; rfl
theorem gives_find_end (x : Str) (i : Nat) (hi : i ≤ x.length) (t u v v2 : Tok) : Gives (Builtin.«str.find» ⟨[.str x t, .str Str.empty u, .int (i : Int) v, .int (x.length : Int) v2], []⟩) (.int (i : Int)) := by
  show Gives (match Builtin.Str.occurrences x Str.empty (fromIndex x.length i) (min (fromIndex x.length x.length) x.length) 1 with | k :: _ => retInt k | [] => (do rule "str.find.not-found"; retInt (-1))) _
  have e1 : fromIndex x.length (i : Int) = i := by unfold fromIndex; split <;> omega
  have e2 : min (fromIndex x.length (x.length : Int)) x.length = x.length := by unfold fromIndex; split <;> omega
  rw [e1, e2]
  have hA : StrLaws.At x Str.empty x.length i := ⟨by show i + 0 ≤ _; omega, by simp [Builtin.Str.subAt, Str.empty, Str.length]; omega⟩
  rcases StrLaws.occ_head_from x Str.empty i 1 (Nat.le_refl _) with h | h
  · exact absurd hA (h.2 i (Nat.le_refl _))
  · obtain ⟨a, r, e, h1, h2, h3⟩ := h
    have : a = i := by
      rcases Nat.lt_or_ge i a with hlt | hge
      · exact absurd hA (h3 i (Nat.le_refl _) hlt)
      · omega
    rw [e, this]
    exact .of_eq rfl
theorem find_endN {prog : Program} {w : World} {A : Around} {E : Value → Shared → Prop} {s : Shared} {x : Str} {t u v v2 : Tok} {i : Nat} {Q : Value → Shared → Prop} (hi : i ≤ x.length) (hq : Q (.int (i : Int) s.toks) { s with toks := s.toks + 1 }) :
    wpAny (model prog w) A (call (.builtin "str.find") [.str x t, .str Str.empty u, .int (i : Int) v, .int (x.length : Int) v2]) Q E s :=
  call_gives F.slot_str_find (typeIs_str _ _ _) F.entry_str_find (F.args_str_find_4 _ _ _ _) (gives_find_end x i hi t u v v2) hq
local macro_rules | `(tactic| walk_at "call builtin:str.find") => `(tactic| (k_here; k_dflt (refine' find_endN ?a ?_; (case a => omega); k_whole)))
local macro_rules | `(tactic| walk_at "call builtin:str.split") => `(tactic| (k_here; k_dflt (refine' split_dotsN ?a ?b ?F ?N ?_; (case a => assumption); (case b => assumption); (case F => k_asm); (case N => k_asm); k_whole); intro D' h' k' ta' tb' F' N' l1'; (try k_lt l1')))
set_option maxHeartbeats 0 in
theorem ell_tells {prog : Program} {w : World} {p : Program} {loose : List Str} {mean : ExcName → Option Value} {mg mb : Str → Option Value} {one rest : Str} {t u : Tok} {news : Ledger} (h1 : ∀ c ∈ one.cps, c ≠ 46 ∧ c < 128) (hl : one.length ≤ 1000) (hne : one.length ≠ 0) (hr : rest.length ≤ 100000) :
    Tells prog w p loose mean mg mb 10 100 (.ref 193) [.str (one ++ dots) t, .str rest u] [] news (fun r news' => (∀ p ∈ news, p ∈ news') ∧ r = .bool (Txt.startswith rest one)) := by
  intro dp un gd cn cs a ccd cl outer A₀ base h₀ L m s Q E B F X N T hk hd hu hret
  have hc := has_dots one
  walk_at "m enter"
  k_steps
  all_goals (try k_data)
  · (rename List.isEmpty _ = true => he)
    have he' : (Builtin.Str.occurrences (one ++ dots) dots 0 (one ++ dots).length 1).isEmpty = true := he
    rw [Txt.contains, he'] at hc
    exact absurd hc (by decide)
  · exact hret _ _ _ _ ⟨fun p hp => .tail _ (.tail _ hp), by rw [starts_le (by assumption)]⟩ (by k_asm) (by k_asm)
  · rename _ = true => hst
    (rename Fr _ _ _ _ => lF'); with_unfolding_all refine' For_turns lF' ?_
    k_steps
    (rename Fr _ _ _ _ => lF'); (rename News _ _ _ _ => lN')
    with_unfolding_all refine iter_listTurns (by rfl) lF' lN' (.tail _ (.head _)) (by rfl) (by rfl) (fun I l1 => ?_)
    clear lF' lN'
    refine ItemsRest.val (fun h' tk' F' => ?_)
    refine AllObj.cons (fun o' hc' => ?_)
    refine AllObj.nil (fun N' => ?_)
    have hemp : Str.empty.length ≤ 10 := by decide
    simp only [List.cons_append, List.nil_append] at N'
    k_steps
    (rename Fr _ _ _ _ => F₂); (rename News _ _ _ _ => N₂)
    refine unr_end1 F₂ N₂ (fun p hp => Nat.ne_of_lt (l1 p hp)) ⟨⟨.tail _ (.head _), trivial⟩, ItemsRest.zero (fun h' tk' F' N' => ?_)⟩
    k_steps
    exact hret _ _ _ _ ⟨fun p hp => .tail _ (.tail _ hp), by rw [hst]⟩ (by k_asm) (by k_asm)
  · (rename Txt.startswith _ _ = false => hsf)
    exact hret _ _ _ _ ⟨fun p hp => .tail _ (.tail _ hp), by rw [hsf]⟩ (by k_asm) (by k_asm)
  · exact absurd (by omega) hne
end

-- NEEDS: p00_head p02_ledger p02b_loops p02c_comps p02d_setall p03_tells p09_spelled p13_set p14_add p19d_strip
/-- how many signs rstrip takes -/
noncomputable def tailOf (w : Str) (c : Str) : Int := (w.length : Int) - ((Txt.rstripChars w c).length : Nat)
noncomputable def partOf (w : Str) : Str := Txt.mul (Str.ofString "(") (tailOf w (Str.ofString "(")) ++ Str.ofString "\"" ++ w ++ Str.ofString "\"" ++ Txt.mul (Str.ofString ")") (tailOf w (Str.ofString ")"))
noncomputable def textOf (ws : List Str) : Str := Txt.join (Str.ofString " ") (ws.map partOf)
theorem partOf_len {w : Str} (h : w.length ≤ 300) : (partOf w).length ≤ 1000 := by
  unfold partOf
  have e1 : (Txt.mul (Str.ofString "(") (tailOf w (Str.ofString "("))).length ≤ 300 := len_mul_one (c := 40) (by decide +kernel) (by unfold tailOf; omega)
  have e2 : (Txt.mul (Str.ofString ")") (tailOf w (Str.ofString ")"))).length ≤ 300 := len_mul_one (c := 41) (by decide +kernel) (by unfold tailOf; omega)
  have e3 : (Str.ofString "\"").length = 1 := by decide +kernel
  rw [Str.length_append, Str.length_append, Str.length_append, Str.length_append, e3]
  omega
section
theorem sorted_N_strL {prog : Program} {w : World} {A : Around} {E : Value → Shared → Prop} {s : Shared} {h₀ : Heap} {L : Addr} {m : Str → Option Value} {news : Ledger} {l : Addr} {vs : List Value} {ss : List Str} {Q : Value → Shared → Prop}
    (F : Fr h₀ L s.heap m) (N : News h₀ L s.heap news) (hl : s.heap.IsList l vs.toArray) (hS : StrsAre vs ss) (h64 : vs.length < 64)
    (h : ∀ (D : Addr) (h' : Heap) (vs' : List Value) (ss' : List Str) (e : Nat), Fr h₀ L h' m → News h₀ L h' ((D, listOf vs'.toArray e) :: news) → (∀ p ∈ news, p.1 < D) →
      StrsAre vs' ss' → ss'.Perm ss → sortedS ss' = true → Q (.ref D) { s with heap := h' }) :
    wpAny (model prog w) A (call (.builtin "sorted") [.ref l]) Q E s :=
  sorted_N_str F N hl hS h64 fun h' vs' ss' e F' N' a b c => h _ h' vs' ss' e F' N' (fun p hp => Nat.lt_succ_of_lt (Heap.lt_size (N p hp).1)) a b c
local macro_rules | `(tactic| walk_at "call builtin:sorted") => `(tactic| (k_here; (with_reducible show wpAny _ _ (call (Value.builtin _) [Value.ref _]) _ _ _); k_dflt (refine' sorted_N_strL ?F ?N ?a ?b ?c ?_; (case F => k_asm); (case N => k_asm); (case a => exact News.isList (by k_asm) (by walk_at "m told")); (case b => assumption); (case c => omega); k_whole); intro D' h' vs' ss' e' F' N' l1' hss' hperm' hsorted'; (try k_lt l1')))
local macro_rules | `(tactic| walk_at "call builtin:list.append") => `(tactic| walk_at "m append")
local macro_rules | `(tactic| walk_at "exec For Name Call cons nil") => `(tactic| (k_here; refine Hold.out ?_))
local macro_rules | `(tactic| walk_at "call builtin:str.join") => `(tactic| (k_here; refine Hold.out ?_))
set_option maxHeartbeats 0 in
theorem text_tells {prog : Program} {w : World} {p : Program} {loose : List Str} {mean : ExcName → Option Value} {mg mb : Str → Option Value} {l : Addr} {ws : List Value} {ss : List Str} {n : Nat} {news : Ledger} (hl : (l, listOf ws.toArray n) ∈ news) (hw : StrsAre ws ss) (hlen : ss.length ≤ 20) (hsh : ∀ x ∈ ss, x.length ≤ 300) :
    Tells prog w p loose mean mg mb 10 100 (.ref 280) [.ref l] [] news (fun r news' => (∀ p ∈ news, p ∈ news') ∧ ∃ t' ss', ss'.Perm ss ∧ sortedS ss' = true ∧ r = .str (textOf ss') t') := by
  intro dp un gd cn cs a ccd cl outer A₀ base h₀ L m s Q E B F X N T hk hd hu hret
  have hwl : ws.length ≤ 20 := by rw [hw.length]; exact hlen
  walk_at "m enter"
  k_steps
  refine comp_start ?_
  (rename Fr _ _ _ _ => lF'); with_unfolding_all refine' For_turns lF' ?_
  k_steps
  (rename Fr _ _ _ _ => lF'); (rename News _ _ _ _ => lN'); (rename List Str => ss'); (rename List.Perm _ _ => hperm); (rename sortedS _ = true => hsorted); (rename List Value => vs'); (rename StrsAre _ ss' => hss); (rename Nat => e'); (rename _ ∧ AllLt _ _ => hDl); rename_i D _ _
  (rename ∀ p : Addr × Obj, p ∈ news → _ => hpl)
  with_unfolding_all refine iter_listTurns (by rfl) lF' lN' (.head _) (by rfl) (by rfl) (fun I l1 => ?_)
  clear lF' lN'
  refine items_ind (fun xs m' n' => ∃ lr ps k done vs₁ ss₁, m' (Str.ofString "parts") = some (.ref lr) ∧ (lr, listOf ps.toArray k) ∈ n' ∧ (∀ p ∈ news, p ∈ n' ∧ p.1 ≠ lr) ∧ StrsAre ps (done.map partOf) ∧ ss' = done ++ ss₁ ∧ xs = vs₁.map Itm.val ∧ StrsAre vs₁ ss₁ ∧ (D, listOf vs'.toArray e') ∈ n' ∧ D ≠ lr ∧ ∀ p ∈ n', p.1 < I) ?_ ?_ _ _ _ ?_
  · intro m' n' ⟨lr, ps, k, done, vs₁, ss₁, hm, hlr, hnews, hps, hdone, hxs, hs₁, hD, hDl, hlow⟩
    cases hs₁ with
    | cons _ _ _ => cases hxs
    | nil =>
    rw [List.append_nil] at hdone
    subst hdone
    refine ItemsRest.zero (fun h' tk' F' N' => ?_)
    k_steps
    refine comp_start (join_listW (News.isList (by k_asm) hlr) hps (by decide +kernel) (join_room (fun y hy => ?_) ?_) ?_)
    · obtain ⟨x, hx, rfl⟩ := List.mem_map.mp hy
      exact partOf_len (hsh x (hperm.mem_iff.mp hx))
    · rw [List.length_map, hperm.length_eq]; omega
    intro _ _
    k_steps
    exact hret _ _ _ _ ⟨fun p hp => (hnews p hp).1, _, _, hperm, hsorted, rfl⟩ (by k_asm) (by k_asm)
  · intro a' r' m' n' ⟨lr, ps, k, done, vs₁, ss₁, hm, hlr, hnews, hps, hdone, hxs, hs₁, hD, hDl, hlow⟩ IH
    have hx₁ : ∀ x ∈ ss₁, x.length ≤ 300 := fun x hx => hsh x (hperm.mem_iff.mp (by rw [hdone]; exact List.mem_append_right _ hx))
    have hpl : ps.length ≤ 20 := by
      have e1 := hperm.length_eq
      rw [hdone, List.length_append] at e1
      rw [hps.length, List.length_map]
      omega
    cases hs₁ with
    | nil => cases hxs
    | @cons x₁ t₁ vs₂ ss₂ hs₂ =>
    cases hxs
    have hx1 := hx₁ _ (.head _)
    refine ItemsRest.val (fun h' tk' F' => ?_)
    refine AllObj.cons (fun o' hc' => ?_)
    refine AllObj.nil (fun N' => ?_)
    simp only [List.cons_append, List.nil_append] at N'
    k_steps
    (rename Fr _ _ _ _ => F₂); (rename News _ _ _ _ => N₂); (rename (∀ p : Addr × Obj, p ∈ _ → p.2.cls ≠ _ → p.1 ≠ lr) => hAp)
    rw [List.push_toArray] at N₂
    obtain ⟨tq, N₂⟩ : ∃ tq, News _ _ _ (putAt lr (listOf (ps ++ [Value.str (partOf x₁) tq]).toArray (k + 1)) _) := ⟨_, N₂⟩
    have hIne : I ≠ lr := hAp _ (.head _) (by show o'.cls ≠ _; rw [hc']; intro e; injection e with e; exact absurd (show "list_iterator" = "list" from e) (by decide))
    refine unr_end1 (it := o') (news := putAt lr (listOf (ps ++ [Value.str (partOf x₁) tq]).toArray (k + 1)) n') F₂ (cb_drop N₂ fun p hp => ?_) (fun p hp => Nat.ne_of_lt (putAt_low hlow p hp)) ⟨⟨mem_putAt_ne hD hDl, trivial⟩, IH _ _ ⟨lr, ps ++ [Value.str (partOf x₁) tq], k + 1, done ++ [x₁], vs₂, ss₂, hm, mem_putAt_self hlr, fun p hp => ⟨mem_putAt_ne (hnews p hp).1 (hnews p hp).2, (hnews p hp).2⟩, by rw [List.map_append]; exact kct_snoc hps, by rw [hdone, List.append_assoc]; rfl, rfl, hs₂, mem_putAt_ne hD hDl, hDl, putAt_low hlow⟩⟩
    rcases List.mem_cons.mp hp with rfl | hp
    · exact mem_putAt_ne (.head _) hIne
    · exact putAt_tail _ hp
  · exact ⟨_, [], _, [], _, _, rfl, .tail _ (.head _), fun p hp => ⟨.tail _ (.tail _ hp), Nat.ne_of_lt (hpl p hp)⟩, .nil, rfl, rfl, hss, .head _, Nat.ne_of_gt hDl.1, l1⟩
end

-- NEEDS: p00_head p01_search p02_ledger p02b_loops p02c_comps p02d_setall p03_tells p04_conv p05_get p12_del p13_set
section
local macro_rules | `(tactic| walk_at "m enter cls") => `(tactic| (k_dflt (first | (refine' call_cls ?k1 ?k2 ?k3 ?k4 ?k5 ?k6 ?_; (case k1 => k_asm); (case k2 => k_asm); (case k3 => k_asm); (case k4 => k_is); (case k5 => k_is); (case k6 => k_is); k_whole; intro x' d' h' F' N' l1 l2; (try k_lt l1); (try k_lt2 l2); (try k_sweep); refine' code_def ?k1 ?k2 ?k3 ?k4 ?k5 ?kA ?kF ?kK ?k6 ?k7 ?k8 ?k9 ?kB ?_ ?c2 ?c3 ?c4 ?c5; walk_at "m e1"; walk_at "m e9"; (case c5 => decide); (case kB => exact locs rfl); walk_at "m ec"; k_whole; intro g' L' h' FG' F' N' B' X' T'; (try dsimp only); (try k_lift B'); (try k_fold)))))
local macro_rules | `(tactic| walk_at "exec For Tuple Name cons nil") => `(tactic| (k_here; refine Hold.out ?_))
set_option maxHeartbeats 0 in
theorem new0_tells {prog : Program} {w : World} {p : Program} {loose : List Str} {mean : ExcName → Option Value} {mg mb : Str → Option Value} {news : Ledger} :
    Tells prog w p loose mean mg mb 6 60 (.ref 182) [] [] news (fun r news' => ∃ x dx l, r = .ref x ∧ (∀ q ∈ news, q ∈ news' ∧ q.1 ≠ x ∧ q.1 ≠ dx ∧ q.1 ≠ l) ∧ Hdr w.params news' x dx l [] 0 []) := by
  intro dp un gd cn cs a ccd cl outer A₀ base h₀ L m s Q E B F X N T hk hd hu hret
  walk_at "m enter cls"
  k_steps
  refine comp_start ?_
  (rename Fr _ _ _ _ => lF'); with_unfolding_all refine' For_turns lF' ?_
  k_steps
  (rename Fr _ _ _ _ => lF'); (rename News _ _ _ _ => lN')
  with_unfolding_all refine iter_listTurns (vs := []) (n := 0) (by rfl) lF' lN' (by k_mem) (by rfl) (by rfl) (fun I l1 => ?_)
  clear lF' lN'
  refine ItemsRest.zero (fun h' tk' F' N' => ?_)
  k_steps
  (rename ∀ p : Addr × Obj, p ∈ news → _ => hd1)
  (rename ∀ p : Addr × Obj, p ∈ (_, instObj _ _) :: _ :: news → _ => hl1)
  refine' hret _ _ _ _ ?zp ?zf ?zn
  case zf => k_asm
  case zn => k_asm
  refine ⟨_, _, _, rfl, ?zq, ⟨.tail _ (.head _), ⟨_, .tail _ (.tail _ (.head _))⟩, .head _, .nil⟩⟩
  intro q hq
  have q1 := ltN (hd1 q hq)
  have q2 := ltN (hl1 q (.tail _ (.tail _ hq)))
  exact ⟨.tail _ (.tail _ (.tail _ hq)), neN (by omega), neN (by omega), neN (by omega)⟩
set_option maxHeartbeats 0 in
theorem new1_tells {prog : Program} {w : World} {p : Program} {loose : List Str} {mean : ExcName → Option Value} {mg mb : Str → Option Value} {news : Ledger} {l b : Addr} {k v : Str} {t₁ t₂ : Tok} {n n₂ : Nat} (hl : (l, listOf #[.ref b] n) ∈ news) (hb : (b, tupO #[.str k t₁, .str v t₂] n₂) ∈ news) (hk1 : Plain k) (hv1 : Plain v) (hk2 : k.length ≤ sizeLine) (hv2 : v.length ≤ sizeLine) :
    Tells prog w p loose mean mg mb 6 60 (.ref 182) [.ref l] [] news (fun r news' => ∃ x dx, r = .ref x ∧ (∀ q ∈ news, q ∈ news' ∧ q.1 ≠ x ∧ q.1 ≠ dx) ∧ Hdr w.params news' x dx l [b] n [(k, v)]) := by
  intro dp un gd cn cs a ccd cl outer A₀ base h₀ L m s Q E B F X N T hk hd hu hret
  walk_at "m enter cls"
  k_steps
  refine comp_start ?_
  (rename Fr _ _ _ _ => lF'); with_unfolding_all refine' For_turns lF' ?_
  k_steps
  (rename Fr _ _ _ _ => lF'); (rename News _ _ _ _ => lN')
  with_unfolding_all refine iter_listTurns (vs := [.ref b]) (n := n) (by rfl) lF' lN' (.tail _ (.tail _ hl)) (by rfl) (by rfl) (fun I l1 => ?_)
  clear lF' lN'
  refine ItemsRest.val (fun h' tk' F' => ?_)
  refine AllObj.cons (fun o' hc' => ?_)
  refine AllObj.nil (fun N' => ?_)
  simp only [List.cons_append, List.nil_append] at N'
  k_steps
  (rename Fr _ _ _ _ => F₂); (rename News _ _ _ _ => N₂)
  refine unr_end1 F₂ N₂ (fun p hp => Nat.ne_of_lt (l1 p hp)) ⟨⟨.tail _ (.tail _ hl), trivial⟩, ItemsRest.zero (fun h' tk' F' N' => ?_)⟩
  k_steps
  (rename ∀ p : Addr × Obj, p ∈ news → _ => hd1)
  refine' hret _ _ _ _ ?zp ?zf ?zn
  case zf => k_asm
  case zn => k_asm
  refine ⟨_, _, rfl, ?zq, ⟨.head _, ⟨_, .tail _ (.head _)⟩, .tail _ (.tail _ hl), .cons (kv := (k, v)) _ _ _ (.tail _ (.tail _ hb)) .nil⟩⟩
  intro q hq
  have q1 := ltN (hd1 q hq)
  exact ⟨.tail _ (.tail _ hq), neN (by omega), neN (by omega)⟩
end

-- NEEDS:
/-- u and v part at an open bracket against a close one -/
noncomputable def Sep (u v : List Nat) : Prop := ∃ p a b, u = p ++ 40 :: a ∧ v = p ++ 41 :: b
/-- the leaves of a tree of words, in order -/
inductive Leaves : List (List Nat) → Prop
  | root : Leaves [[]]
  | split (l r : List (List Nat)) (w : List Nat) : Leaves (l ++ w :: r) → Leaves (l ++ (w ++ [40]) :: (w ++ [41]) :: r)
theorem Sep.right {u v : List Nat} (h : Sep u v) (x : List Nat) : Sep u (v ++ x) := by
  obtain ⟨p, a, b, rfl, rfl⟩ := h
  exact ⟨p, a, b ++ x, rfl, by simp⟩
theorem Sep.left {u v : List Nat} (h : Sep u v) (x : List Nat) : Sep (u ++ x) v := by
  obtain ⟨p, a, b, rfl, rfl⟩ := h
  exact ⟨p, a ++ x, b, by simp, rfl⟩
theorem Leaves.sep {T : List (List Nat)} (h : Leaves T) : T.Pairwise Sep := by
  induction h with
  | root => simp
  | split l r w _ ih =>
    rw [List.pairwise_append] at ih ⊢
    obtain ⟨h1, h2, h3⟩ := ih
    rw [List.pairwise_cons] at h2
    refine ⟨h1, ?_, ?_⟩
    · rw [List.pairwise_cons, List.pairwise_cons]
      refine ⟨?_, fun v hv => (h2.1 v hv).left _, h2.2⟩
      intro v hv
      rcases List.mem_cons.mp hv with rfl | hv
      · exact ⟨w, [], [], rfl, rfl⟩
      · exact (h2.1 v hv).left _
    · intro u hu v hv
      rcases List.mem_cons.mp hv with rfl | hv
      · exact (h3 u hu w (.head _)).right _
      · rcases List.mem_cons.mp hv with rfl | hv
        · exact (h3 u hu w (.head _)).right _
        · exact h3 u hu v (.tail _ hv)
/-- how many signs c end w -/
noncomputable def tcount (c : Nat) (w : List Nat) : Nat := (w.reverse.takeWhile (· == c)).length
theorem tcount_snoc (c d : Nat) (w : List Nat) : tcount c (w ++ [d]) = if d = c then tcount c w + 1 else 0 := by
  unfold tcount
  rw [List.reverse_append]
  show (List.takeWhile _ (d :: w.reverse)).length = _
  rw [List.takeWhile_cons]
  by_cases h : d = c
  · rw [if_pos h, if_pos (by simpa using h)]; rfl
  · rw [if_neg h, if_neg (by simpa using h)]; rfl
noncomputable def tr (w : List Nat) : Int := (tcount 40 w : Int) - tcount 41 w
theorem tr_open (w : List Nat) : tr (w ++ [40]) = tcount 40 w + 1 := by
  unfold tr
  rw [tcount_snoc, tcount_snoc, if_pos rfl, if_neg (by decide)]
  omega
theorem tr_close (w : List Nat) : tr (w ++ [41]) = - (tcount 41 w + 1) := by
  unfold tr
  rw [tcount_snoc, tcount_snoc, if_pos rfl, if_neg (by decide)]
  omega
/-- the run from o on never falls below nought -/
noncomputable def NN : Int → List Int → Prop
  | _, [] => True
  | o, d :: r => 0 ≤ o + d ∧ NN (o + d) r
theorem NN.split {a b c : Int} (hb : 0 ≤ b) (e : b + c = a) : ∀ (l : List Int) {o : Int} (r : List Int), 0 ≤ o → NN o (l ++ a :: r) → NN o (l ++ b :: c :: r)
  | [], o, r, ho, h => by
    obtain ⟨h1, h2⟩ := h
    refine ⟨by omega, by omega, ?_⟩
    have e' : o + b + c = o + a := by omega
    rw [e']
    exact h2
  | d :: l, o, r, ho, h => ⟨h.1, NN.split hb e l r h.1 h.2⟩
theorem Leaves.run {T : List (List Nat)} (h : Leaves T) : NN 0 (T.map tr) ∧ (T.map tr).sum = 0 := by
  induction h with
  | root => exact ⟨⟨by decide, trivial⟩, by decide⟩
  | split l r w _ ih =>
    obtain ⟨h1, h2⟩ := ih
    have e : tr (w ++ [40]) + tr (w ++ [41]) = tr w := by
      rw [tr_open, tr_close]; unfold tr; omega
    simp only [List.map_append, List.map_cons] at h1 h2 ⊢
    refine ⟨NN.split (by rw [tr_open]; omega) e _ _ (Int.le_refl 0) h1, ?_⟩
    simp only [List.sum_append, List.sum_cons] at h2 ⊢
    omega
/-- lexicographic: separated words rise -/
theorem Sep.lt {u v : List Nat} (h : Sep u v) : u < v := by
  obtain ⟨p, a, b, rfl, rfl⟩ := h
  induction p with
  | nil => exact List.Lex.rel (by decide)
  | cons x p ih => exact List.Lex.cons ih
/-- separated words are no prefixes of one another -/
theorem Sep.no_prefix {u v : List Nat} (h : Sep u v) : ¬ u <+: v ∧ ¬ v <+: u := by
  obtain ⟨p, a, b, rfl, rfl⟩ := h
  constructor
  · rintro ⟨t, ht⟩
    rw [List.append_assoc] at ht
    have := List.append_cancel_left ht
    simp at this
  · rintro ⟨t, ht⟩
    rw [List.append_assoc] at ht
    have := List.append_cancel_left ht
    simp at this

-- NEEDS: p00_head p01_search p02_ledger p02d_setall p03_tells p05_get p06_name p07_first p08_taken p09_spelled p11_all p15a_free p17_ellipsis p18_text p19d_strip p19e_check
theorem foldl_cat : ∀ (l : List Str) (acc : Array Nat), (l.foldl (fun acc p => acc ++ (Str.ofString "").cps ++ p.cps) acc).toList = acc.toList ++ (l.map fun p => p.cps.toList).flatten
  | [], acc => by simp
  | p :: r, acc => by
    rw [List.foldl_cons, foldl_cat r]
    have e : (Str.ofString "").cps = #[] := by decide +kernel
    rw [e]
    simp
theorem join_list (l : List Str) : (Txt.join (Str.ofString "") l).cps.toList = (l.map fun p => p.cps.toList).flatten := by
  show (((l.drop 1).foldl (fun acc p => acc ++ (Str.ofString "").cps ++ p.cps) (l.headD Str.empty).cps)).toList = _
  rw [foldl_cat]
  cases l with
  | nil => rfl
  | cons p r => simp
theorem str_ext {x y : Str} (h : x.cps.toList = y.cps.toList) : x = y := by
  cases x; cases y
  simp only [Array.toList_inj] at h
  rw [h]
theorem join_length (l : List Str) : (Txt.join (Str.ofString "") l).length = (l.map (·.length)).sum := by
  show (Txt.join (Str.ofString "") l).cps.size = _
  rw [← Array.length_toList, join_list, List.length_flatten, List.map_map]
  congr 1
theorem join_slice {w : Str} {l : List Str} : Txt.slice (Txt.join (Str.ofString "") (w :: l)) (some ((w.length : Nat) : Int)) none = Txt.join (Str.ofString "") l := by
  have hl := join_length (w :: l)
  have hle : w.length ≤ (Txt.join (Str.ofString "") (w :: l)).length := by rw [hl, List.map_cons, List.sum_cons]; omega
  rw [slice_from_eq (by omega) (by omega) rfl]
  refine str_ext ?_
  show List.take _ (List.drop _ _) = _
  have e : (((w.length : Nat) : Int)).toNat = w.cps.toList.length := by simp [Str.length]
  rw [join_list, join_list, List.map_cons, List.flatten_cons, e, List.drop_left, List.take_of_length_le]
  have e2 : ((l.map fun p => p.cps.toList).flatten).length = (l.map (·.length)).sum := by
    rw [List.length_flatten, List.map_map]; congr 1
  rw [e2, hl, List.map_cons, List.sum_cons]
  omega
theorem join_len {l : List Str} (h : ∀ y ∈ l, y.length ≤ 5) (hl : l.length ≤ 10) : (Txt.join (Str.ofString "") l).length ≤ 50 := by
  rw [join_length]
  have : ∀ l : List Str, (∀ y ∈ l, y.length ≤ 5) → (l.map (·.length)).sum ≤ 5 * l.length := by
    intro l
    induction l with
    | nil => intro _; exact Nat.le_refl 0
    | cons w r ih =>
      intro h
      have h1 := h w (.head _)
      have h2 := ih fun y hy => h y (.tail _ hy)
      rw [List.map_cons, List.sum_cons, List.length_cons]
      omega
  have := this l h
  omega

-- NEEDS: p00_head p01_search p02_ledger p02d_setall p03_tells p05_get p09_spelled p18_text p19d_strip p19g_leaves p19f_words
theorem contains_one (c d : Nat) : (#[c] : Array Nat).contains d = (d == c) := by
  by_cases h : d = c
  · subst h; simp
  · simp [h]
theorem strip_len (w : Str) (c : Nat) : (Txt.rstripChars w ⟨#[c]⟩).length = w.length - tcount c w.cps.toList := by
  unfold Txt.rstripChars
  rw [PyProof.Rows.stripBy_eq]
  have h0 : stripLo (#[c] : Array Nat).contains false w = 0 := by simp [stripLo]
  rw [h0]
  have h1 : stripHi (#[c] : Array Nat).contains true w 0 = w.length - tcount c w.cps.toList := by
    simp only [stripHi, if_true, List.drop_zero]
    unfold tcount
    congr 3
    funext d
    exact contains_one c d
  rw [h1]
  show (w.cps.extract 0 (w.length - tcount c w.cps.toList)).size = _
  rw [Array.size_extract]
  show min (w.length - _) w.length - 0 = _
  omega
theorem tcount_le (c : Nat) (w : List Nat) : tcount c w ≤ w.length := by
  unfold tcount
  have := (List.takeWhile_sublist (p := (· == c)) (l := w.reverse)).length_le
  simpa using this
theorem tailOf_one (w : Str) (c : Nat) : tailOf w ⟨#[c]⟩ = (tcount c w.cps.toList : Nat) := by
  unfold tailOf
  rw [strip_len]
  have := tcount_le c w.cps.toList
  have e : w.cps.toList.length = w.length := by simp [Str.length]
  omega
theorem foldl_one (c : Nat) : ∀ (n : Nat) (acc : Array Nat), ((List.replicate n #[c]).foldl (· ++ ·) acc).toList = acc.toList ++ List.replicate n c
  | 0, acc => by simp
  | n + 1, acc => by
    rw [List.replicate_succ, List.foldl_cons, foldl_one c n]
    simp [List.replicate_succ]
theorem mul_one (c n : Nat) : (Txt.mul ⟨#[c]⟩ (n : Int)).cps.toList = List.replicate n c := by
  unfold Txt.mul
  split
  · have : n = 0 := by omega
    subst this
    rfl
  · split
    · rename_i h
      have : n = 1 := by
        simp [Str.length] at h
        omega
      subst this
      rfl
    · show ((List.replicate ((n : Int)).toNat #[c]).foldl (· ++ ·) #[]).toList = _
      rw [foldl_one]
      simp
theorem open_one : Str.ofString "(" = ⟨#[40]⟩ := by decide +kernel
theorem close_one : Str.ofString ")" = ⟨#[41]⟩ := by decide +kernel
theorem quote_one : Str.ofString "\"" = ⟨#[34]⟩ := by decide +kernel
/-- a word's part of the text -/
noncomputable def partL (w : List Nat) : List Nat := List.replicate (tcount 40 w) 40 ++ [34] ++ w ++ [34] ++ List.replicate (tcount 41 w) 41
theorem cat_list (x y : Str) : (x ++ y).cps.toList = x.cps.toList ++ y.cps.toList := by
  show (x.cps ++ y.cps).toList = _
  simp
theorem partOf_list (w : Str) : (partOf w).cps.toList = partL w.cps.toList := by
  unfold partOf partL
  rw [open_one, close_one, quote_one, tailOf_one, tailOf_one, cat_list, cat_list, cat_list, cat_list, mul_one, mul_one]

-- NEEDS: p00_head p01_search p02_ledger p02d_setall p03_tells p05_get p09_spelled p18_text p19d_strip p19g_leaves p19f_words p19h_parts
/-- the signs outside quotation marks: the state and what stands so far -/
noncomputable def uq (st : Bool × List Nat) (c : Nat) : Bool × List Nat := if c = 34 then (!st.1, st.2) else if st.1 then st else (false, st.2 ++ [c])
noncomputable def uqAt (x : Str) (i : Nat) : Bool × List Nat := (x.cps.toList.take i).foldl uq (false, [])
theorem uqAt_succ {x : Str} {i c : Nat} (hc : x.cps[i]? = some c) : uqAt x (i + 1) = uq (uqAt x i) c := by
  unfold uqAt
  rw [List.take_add_one, Array.getElem?_toList, hc, Option.toList_some, List.foldl_append]
  rfl
noncomputable def flatS (l : List Str) : List Nat := (l.map fun p => p.cps.toList).flatten
theorem flatS_snoc (l : List Str) (y : Str) : flatS (l ++ [y]) = flatS l ++ y.cps.toList := by
  unfold flatS; simp
noncomputable def midL (x : Str) (a b : Nat) : List Nat := (x.cps.toList.drop a).take (b - a)
theorem midL_succ {x : Str} {a i c : Nat} (ha : a ≤ i) (hc : x.cps[i]? = some c) : midL x a (i + 1) = midL x a i ++ [c] := by
  unfold midL
  rw [show i + 1 - a = (i - a) + 1 by omega, List.take_add_one, List.getElem?_drop, show a + (i - a) = i by omega, Array.getElem?_toList, hc]
  rfl
theorem midL_self (x : Str) (a : Nat) : midL x a a = [] := by unfold midL; simp
theorem slice_mid {x : Str} {a b : Nat} (h1 : a ≤ b) (h2 : b ≤ x.length) : (Txt.slice x (some (a : Nat)) (some (b : Nat))).cps.toList = midL x a b := by
  rw [beq_iff_eq.mp (slice_closesL (x := x) (i := (a : Int)) (j := (b : Int)) (by omega) (by omega) (by omega))]
  unfold midL
  show List.take _ (List.drop _ _) = _
  rw [show ((a : Int)).toNat = a by omega, show ((b : Int) - (a : Int)).toNat = b - a by omega]
noncomputable def UqInv (x : Str) (i : Nat) : Prop := match (ssAt x i).opn with
  | none => (ssAt x i).start ≤ i ∧ uqAt x i = (false, flatS (ssAt x i).res ++ midL x (ssAt x i).start i)
  | some o => (ssAt x i).start ≤ o ∧ o ≤ i ∧ uqAt x i = (true, flatS (ssAt x i).res ++ midL x (ssAt x i).start o)
theorem uq_inv (x : Str) : ∀ i, i ≤ x.length → UqInv x i
  | 0, _ => ⟨Nat.le_refl 0, by simp [uqAt, ssAt, flatS, midL]⟩
  | i + 1, hi => by
    have ih := uq_inv x i (by omega)
    have hlt : i < x.cps.size := hi
    obtain ⟨c, hc⟩ : ∃ c, x.cps[i]? = some c := ⟨x.cps[i], Array.getElem?_eq_getElem hlt⟩
    unfold UqInv at ih ⊢
    rw [ssAt_succ hc, uqAt_succ hc]
    unfold ssStep
    by_cases h : c = 34
    · rw [if_pos h]
      cases ho : (ssAt x i).opn with
      | none =>
        rw [ho] at ih
        obtain ⟨h1, h2⟩ := ih
        dsimp only
        refine ⟨h1, Nat.le_succ i, ?_⟩
        rw [h2, uq, if_pos h]
        rfl
      | some o =>
        rw [ho] at ih
        obtain ⟨h1, h2, h3⟩ := ih
        dsimp only
        refine ⟨Nat.le_refl _, ?_⟩
        rw [h3, uq, if_pos h, midL_self, List.append_nil]
        by_cases he : (ssAt x i).start = o
        · rw [if_pos he, he, midL_self, List.append_nil]; rfl
        · rw [if_neg he, flatS_snoc, slice_mid h1 (by show o ≤ x.cps.size; omega)]; rfl
    · rw [if_neg h]
      cases ho : (ssAt x i).opn with
      | none =>
        rw [ho] at ih
        obtain ⟨h1, h2⟩ := ih
        dsimp only
        refine ⟨Nat.le_succ_of_le h1, ?_⟩
        rw [h2, uq, if_neg h, midL_succ h1 hc]
        simp
      | some o =>
        rw [ho] at ih
        obtain ⟨h1, h2, h3⟩ := ih
        dsimp only
        refine ⟨h1, Nat.le_succ_of_le h2, ?_⟩
        rw [h3, uq, if_neg h]
        rfl
/-- where the quotation marks are even, what is stripped is what stands outside of them -/
theorem stripped_list {x : Str} {out : List Nat} (h : x.cps.toList.foldl uq (false, []) = (false, out)) : (stripped x).cps.toList = out := by
  have e : uqAt x x.length = (false, out) := by
    unfold uqAt
    rw [show x.length = x.cps.toList.length by simp [Str.length], List.take_length]
    exact h
  have inv := uq_inv x x.length (Nat.le_refl _)
  unfold UqInv at inv
  unfold stripped
  rw [join_list]
  show flatS (stripRes x) = out
  cases ho : (ssAt x x.length).opn with
  | some o =>
    rw [ho] at inv
    rw [inv.2.2] at e
    cases e
  | none =>
    rw [ho] at inv
    rw [inv.2] at e
    have e2 := congrArg Prod.snd e
    dsimp only at e2
    unfold stripRes
    have hsz : x.cps.size = x.length := rfl
    rw [hsz]
    split
    · rename_i hlt
      rw [flatS_snoc, ← e2, slice_from_eq (by omega) (by omega) rfl]
      unfold midL
      congr 1
      show List.take _ (List.drop _ _) = _
      rw [show (((ssAt x x.length).start : Nat) : Int).toNat = (ssAt x x.length).start by omega]
      congr 1
      omega
    · rename_i hge
      have : (ssAt x x.length).start = x.length := by have := inv.1; omega
      rw [← e2, this, midL_self, List.append_nil]

-- NEEDS: p00_head p01_search p02_ledger p02d_setall p03_tells p05_get p09_spelled p18_text p19d_strip p19e_check p19g_leaves p19f_words p19h_parts p19i_unquote
noncomputable def textTail (ws : List (List Nat)) : List Nat := (ws.map fun v => 32 :: partL v).flatten
noncomputable def textL : List (List Nat) → List Nat
  | [] => []
  | w :: r => partL w ++ textTail r
theorem foldl_sp : ∀ (l : List Str) (acc : Array Nat), (l.foldl (fun acc p => acc ++ (Str.ofString " ").cps ++ p.cps) acc).toList = acc.toList ++ (l.map fun p => 32 :: p.cps.toList).flatten
  | [], acc => by simp
  | p :: r, acc => by
    rw [List.foldl_cons, foldl_sp r]
    have e : (Str.ofString " ").cps = #[32] := by decide +kernel
    rw [e]
    simp
theorem textOf_list (ss : List Str) : (textOf ss).cps.toList = textL (ss.map fun p => p.cps.toList) := by
  unfold textOf
  show ((((ss.map partOf).drop 1).foldl (fun acc p => acc ++ (Str.ofString " ").cps ++ p.cps) ((ss.map partOf).headD Str.empty).cps)).toList = _
  rw [foldl_sp]
  cases ss with
  | nil => rfl
  | cons p r =>
    simp only [List.map_cons, List.drop_succ_cons, List.drop_zero, List.headD_cons, partOf_list, List.map_map, textL, textTail]
    congr 2
    refine List.map_congr_left fun q _ => ?_
    show 32 :: (partOf q).cps.toList = _
    rw [partOf_list]
    rfl
/-- signs of a word -/
noncomputable def WL (w : List Nat) : Prop := ∀ c ∈ w, c = 40 ∨ c = 41
theorem uq_plain : ∀ (l : List Nat) (out : List Nat), (∀ c ∈ l, c ≠ 34) → l.foldl uq (false, out) = (false, out ++ l)
  | [], out, _ => by simp
  | c :: r, out, h => by
    rw [List.foldl_cons]
    have hc := h c (.head _)
    show List.foldl uq (uq (false, out) c) r = _
    rw [uq, if_neg hc]
    show List.foldl uq (false, out ++ [c]) r = _
    rw [uq_plain r _ fun d hd => h d (.tail _ hd)]
    simp
theorem uq_quoted : ∀ (l : List Nat) (out : List Nat), (∀ c ∈ l, c ≠ 34) → l.foldl uq (true, out) = (true, out)
  | [], out, _ => rfl
  | c :: r, out, h => by
    rw [List.foldl_cons]
    have hc := h c (.head _)
    show List.foldl uq (uq (true, out) c) r = _
    rw [uq, if_neg hc]
    exact uq_quoted r out fun d hd => h d (.tail _ hd)
noncomputable def bareL (w : List Nat) : List Nat := List.replicate (tcount 40 w) 40 ++ List.replicate (tcount 41 w) 41
theorem uq_part {w : List Nat} (h : WL w) (out : List Nat) : (partL w).foldl uq (false, out) = (false, out ++ bareL w) := by
  unfold partL bareL
  rw [List.foldl_append, List.foldl_append, List.foldl_append, List.foldl_append]
  rw [uq_plain _ _ (by intro c hc; rw [List.eq_of_mem_replicate hc]; decide)]
  show List.foldl uq (List.foldl uq (List.foldl uq (true, out ++ List.replicate (tcount 40 w) 40) w) [34]) _ = _
  rw [uq_quoted _ _ (by intro c hc; rcases h c hc with rfl | rfl <;> decide)]
  show List.foldl uq (false, out ++ List.replicate (tcount 40 w) 40) _ = _
  rw [uq_plain _ _ (by intro c hc; rw [List.eq_of_mem_replicate hc]; decide), List.append_assoc]
noncomputable def bareTail (ws : List (List Nat)) : List Nat := (ws.map fun v => 32 :: bareL v).flatten
noncomputable def bareText : List (List Nat) → List Nat
  | [] => []
  | w :: r => bareL w ++ bareTail r
theorem uq_tail : ∀ (ws : List (List Nat)) (out : List Nat), (∀ w ∈ ws, WL w) → (textTail ws).foldl uq (false, out) = (false, out ++ bareTail ws)
  | [], out, _ => by simp [textTail, bareTail]
  | w :: r, out, h => by
    unfold textTail bareTail
    rw [List.map_cons, List.map_cons, List.flatten_cons, List.flatten_cons, List.foldl_append, List.foldl_cons]
    show List.foldl uq (List.foldl uq (false, out ++ [32]) (partL w)) _ = _
    rw [uq_part (h w (.head _))]
    have ih := uq_tail r (out ++ [32] ++ bareL w) fun v hv => h v (.tail _ hv)
    unfold textTail bareTail at ih
    rw [ih]
    simp
theorem uq_text : ∀ (ws : List (List Nat)), (∀ w ∈ ws, WL w) → (textL ws).foldl uq (false, []) = (false, bareText ws)
  | [], _ => rfl
  | w :: r, h => by
    unfold textL bareText
    rw [List.foldl_append, uq_part (h w (.head _)), uq_tail r _ fun v hv => h v (.tail _ hv)]
    rfl
theorem stripped_text {ss : List Str} (h : ∀ w ∈ ss, WL w.cps.toList) : (stripped (textOf ss)).cps.toList = bareText (ss.map fun p => p.cps.toList) :=
  stripped_list (by
    rw [textOf_list]
    exact uq_text _ (by intro w hw; obtain ⟨p, hp, rfl⟩ := List.mem_map.mp hw; exact h p hp))
theorem opens_40 : ∀ (a : Nat) (r : List Nat) (o : Int), opensOf (List.replicate a 40 ++ r) o = opensOf r (o + a)
  | 0, r, o => by simp
  | a + 1, r, o => by
    rw [List.replicate_succ, List.cons_append, opensOf, if_pos rfl, opens_40 a]
    congr 1; omega
theorem opens_41 : ∀ (b : Nat) (r : List Nat) (o : Int), 0 ≤ o → opensOf (List.replicate b 41 ++ r) o = if o - b < 0 then none else opensOf r (o - b)
  | 0, r, o, h => by
    rw [if_neg (by omega)]; simp
  | b + 1, r, o, h => by
    rw [List.replicate_succ, List.cons_append, opensOf, if_neg (by decide), if_pos rfl]
    split
    · rw [if_pos (by omega)]
    · rw [opens_41 b r (o - 1) (by omega)]
      have e : o - 1 - (b : Int) = o - ((b + 1 : Nat) : Int) := by omega
      rw [e]
theorem opens_bare (w r : List Nat) {o : Int} (ho : 0 ≤ o) : opensOf (bareL w ++ r) o = if o + tr w < 0 then none else opensOf r (o + tr w) := by
  unfold bareL
  rw [List.append_assoc, opens_40, opens_41 _ _ _ (by omega)]
  have e : o + (tcount 40 w : Int) - (tcount 41 w : Int) = o + tr w := by unfold tr; omega
  rw [e]
theorem opens_skip (r : List Nat) (o : Int) : opensOf (32 :: r) o = opensOf r o := by
  rw [opensOf, if_neg (by decide), if_neg (by decide)]
theorem opens_tail : ∀ (ws : List (List Nat)) (o : Int), 0 ≤ o → (NN o (ws.map tr) → opensOf (bareTail ws) o = some (o + (ws.map tr).sum)) ∧ (∀ p, opensOf (bareTail ws) o = some p → p = o + (ws.map tr).sum)
  | [], o, _ => ⟨fun _ => by simp [bareTail, opensOf], fun p h => by simp [bareTail, opensOf] at h; simp [h]⟩
  | w :: r, o, ho => by
    have e : bareTail (w :: r) = 32 :: (bareL w ++ bareTail r) := by simp [bareTail]
    rw [e, opens_skip, opens_bare _ _ ho, List.map_cons, List.sum_cons]
    by_cases h : o + tr w < 0
    · rw [if_pos h]
      exact ⟨fun hn => absurd hn.1 (by omega), fun p hp => nomatch hp⟩
    · rw [if_neg h]
      have ih := opens_tail r (o + tr w) (by omega)
      refine ⟨fun hn => ?_, fun p hp => ?_⟩
      · rw [ih.1 hn.2]; congr 1; omega
      · rw [ih.2 p hp]; omega
theorem opens_text (ws : List (List Nat)) : (NN 0 (ws.map tr) → opensOf (bareText ws) 0 = some (ws.map tr).sum) ∧ (∀ p, opensOf (bareText ws) 0 = some p → p = (ws.map tr).sum) := by
  have e : opensOf (bareText ws) 0 = opensOf (bareTail ws) 0 := by
    cases ws with
    | nil => rfl
    | cons w r =>
      show opensOf (bareL w ++ bareTail r) 0 = opensOf (bareTail (w :: r)) 0
      rw [show bareTail (w :: r) = 32 :: (bareL w ++ bareTail r) by simp [bareTail], opens_skip]
  have h := opens_tail ws 0 (Int.le_refl 0)
  rw [e]
  simpa using h

-- NEEDS: p00_head p01_search p02_ledger p02d_setall p03_tells p05_get p09_spelled p18_text p19d_strip p19e_check p19g_leaves p19f_words p19h_parts p19i_unquote p19j_opens
noncomputable def Sig (c : Nat) : Prop := c = 32 ∨ c = 34 ∨ c = 40 ∨ c = 41
theorem sig_part {w : List Nat} (h : WL w) : ∀ c ∈ partL w, Sig c := by
  intro c hc
  unfold partL at hc
  simp only [List.mem_append, List.mem_singleton] at hc
  rcases hc with (((hc | hc) | hc) | hc) | hc
  · rw [List.eq_of_mem_replicate hc]; exact .inr (.inr (.inl rfl))
  · exact .inr (.inl hc)
  · exact .inr (.inr (h c hc))
  · exact .inr (.inl hc)
  · rw [List.eq_of_mem_replicate hc]; exact .inr (.inr (.inr rfl))
theorem sig_bare (w : List Nat) : ∀ c ∈ bareL w, Sig c := by
  intro c hc
  unfold bareL at hc
  rcases List.mem_append.mp hc with hc | hc
  · rw [List.eq_of_mem_replicate hc]; exact .inr (.inr (.inl rfl))
  · rw [List.eq_of_mem_replicate hc]; exact .inr (.inr (.inr rfl))
theorem sig_flat {f : List Nat → List Nat} {ws : List (List Nat)} (h : ∀ w ∈ ws, ∀ c ∈ f w, Sig c) : ∀ c ∈ (ws.map fun v => 32 :: f v).flatten, Sig c := by
  intro c hc
  obtain ⟨l, hl, hc⟩ := List.mem_flatten.mp hc
  obtain ⟨w, hw, rfl⟩ := List.mem_map.mp hl
  rcases List.mem_cons.mp hc with rfl | hc
  · exact .inl rfl
  · exact h w hw c hc
theorem sig_text {ws : List (List Nat)} (h : ∀ w ∈ ws, WL w) : ∀ c ∈ textL ws, Sig c := by
  cases ws with
  | nil => intro c hc; cases hc
  | cons w r =>
    intro c hc
    rcases List.mem_append.mp hc with hc | hc
    · exact sig_part (h w (.head _)) c hc
    · exact sig_flat (fun v hv => sig_part (h v (.tail _ hv))) c hc
theorem sig_bareText (ws : List (List Nat)) : ∀ c ∈ bareText ws, Sig c := by
  cases ws with
  | nil => intro c hc; cases hc
  | cons w r =>
    intro c hc
    rcases List.mem_append.mp hc with hc | hc
    · exact sig_bare w c hc
    · exact sig_flat (fun v _ => sig_bare v) c hc
theorem len_part {w : List Nat} (h : w.length ≤ 5) : (partL w).length ≤ 17 ∧ (bareL w).length ≤ 17 := by
  have h1 := tcount_le 40 w
  have h2 := tcount_le 41 w
  unfold partL bareL
  simp only [List.length_append, List.length_replicate, List.length_singleton]
  omega
theorem len_flat {f : List Nat → List Nat} : ∀ {ws : List (List Nat)}, (∀ w ∈ ws, (f w).length ≤ 17) → ((ws.map fun v => 32 :: f v).flatten).length ≤ 18 * ws.length
  | [], _ => by simp
  | w :: r, h => by
    have h1 := h w (.head _)
    have h2 := len_flat (f := f) (ws := r) fun v hv => h v (.tail _ hv)
    rw [List.map_cons, List.flatten_cons, List.length_append, List.length_cons, List.length_cons]
    omega
theorem len_text {ws : List (List Nat)} (h : ∀ w ∈ ws, w.length ≤ 5) : (textL ws).length ≤ 18 * ws.length ∧ (bareText ws).length ≤ 18 * ws.length := by
  cases ws with
  | nil => exact ⟨Nat.le_refl 0, Nat.le_refl 0⟩
  | cons w r =>
    have h1 := len_part (h w (.head _))
    have h2 := len_flat (f := partL) (ws := r) fun v hv => (len_part (h v (.tail _ hv))).1
    have h3 := len_flat (f := bareL) (ws := r) fun v hv => (len_part (h v (.tail _ hv))).2
    unfold textL bareText textTail bareTail
    rw [List.length_append, List.length_append, List.length_cons]
    omega
theorem sig_ok {x : Str} (h : ∀ c ∈ x.cps.toList, Sig c) : (∀ c ∈ x.cps, c < 128 ∧ c ≠ 92) ∧ x.cps.all (· < 128) = true := by
  have q : ∀ c ∈ x.cps, c < 128 ∧ c ≠ 92 := by
    intro c hc
    rcases h c (by simpa using hc) with rfl | rfl | rfl | rfl <;> decide
  refine ⟨q, ?_⟩
  rw [Array.all_eq_true']
  intro c hc
  simpa using (q c hc).1
theorem text_plain0 {ss : List Str} (h : ∀ w ∈ ss, w.length ≤ 5 ∧ ∀ c ∈ w.cps, c = 40 ∨ c = 41) (hl : ss.length ≤ 20) : (∀ c ∈ (textOf ss).cps, c < 128 ∧ c ≠ 92) ∧ ((textOf ss).cps.all (· < 128) = true) ∧ (textOf ss).length ≤ 1000 ∧ (∀ c ∈ (stripped (textOf ss)).cps, c < 128 ∧ c ≠ 92) ∧ ((stripped (textOf ss)).cps.all (· < 128) = true) ∧ (stripped (textOf ss)).cps.size ≤ 1000000 := by
  have hw : ∀ w ∈ ss, WL w.cps.toList := fun w hw c hc => (h w hw).2 c (by simpa using hc)
  have hw' : ∀ w ∈ ss.map (fun p => p.cps.toList), WL w := by intro w hw'; obtain ⟨p, hp, rfl⟩ := List.mem_map.mp hw'; exact hw p hp
  have h5 : ∀ w ∈ ss.map (fun p => p.cps.toList), w.length ≤ 5 := by
    intro w hw'
    obtain ⟨p, hp, rfl⟩ := List.mem_map.mp hw'
    have := (h p hp).1
    simpa [Str.length] using this
  have ht := textOf_list ss
  have hb := stripped_text hw
  have hlen := len_text h5
  rw [List.length_map] at hlen
  obtain ⟨a1, a2⟩ := sig_ok (x := textOf ss) (by rw [ht]; exact sig_text hw')
  obtain ⟨b1, b2⟩ := sig_ok (x := stripped (textOf ss)) (by rw [hb]; exact sig_bareText _)
  refine ⟨a1, a2, ?_, b1, b2, ?_⟩
  · show (textOf ss).cps.size ≤ _
    rw [← Array.length_toList, ht]; omega
  · rw [← Array.length_toList, hb]; omega
/-- a text of words has quotation marks -/
theorem text_quoted {ss : List Str} (hne : ss ≠ []) : (Builtin.Str.occurrences (textOf ss) (Str.ofString "\"") 0 (textOf ss).length 1).isEmpty = false := by
  cases ss with
  | nil => exact absurd rfl hne
  | cons p r =>
    have hm : 34 ∈ (textOf (p :: r)).cps.toList := by
      rw [textOf_list]
      simp [textL, partL]
    obtain ⟨i, hi⟩ := List.getElem?_of_mem hm
    rw [Array.getElem?_toList] at hi
    have hlt := (Array.getElem?_eq_some_iff.mp hi).1
    have hA : StrLaws.At (textOf (p :: r)) (Str.ofString "\"") (textOf (p :: r)).length i := by
      rw [quote_one]
      refine ⟨by show i + 1 ≤ _; exact hlt, ?_⟩
      show ((textOf (p :: r)).cps.extract i (i + 1) == #[34]) = true
      rw [beq_iff_eq]
      apply Array.ext
      · simp [Array.size_extract]; omega
      · intro j h1 h2
        have : j = 0 := by simp at h2; omega
        subst this
        have e := (Array.getElem?_eq_some_iff.mp hi).2
        simp [Array.getElem_extract, e]
    rcases StrLaws.occ_head (textOf (p :: r)) (Str.ofString "\"") 1 (Nat.le_refl _) with ⟨_, h⟩ | ⟨i, r', e, _⟩
    · exact absurd hA (h _)
    · rw [e]; rfl
/-- the answer of the check, by the signs that end the words -/
theorem check_text {ss : List Str} (hne : ss ≠ []) (h : ∀ w ∈ ss, ∀ c ∈ w.cps, c = 40 ∨ c = 41) {y : Str} (hy : ((Builtin.Str.occurrences (textOf ss) (Str.ofString "\"") 0 (textOf ss).length 1).isEmpty = true ∧ y = textOf ss) ∨ y = stripped (textOf ss)) :
    (NN 0 ((ss.map fun p => p.cps.toList).map tr) → ((ss.map fun p => p.cps.toList).map tr).sum = 0 → checkOf y = true) ∧ (((ss.map fun p => p.cps.toList).map tr).sum ≠ 0 → checkOf y = false) := by
  have ey : y = stripped (textOf ss) := by
    rcases hy with ⟨h1, _⟩ | h1
    · rw [text_quoted hne] at h1; cases h1
    · exact h1
  have hl : y.cps.toList = bareText (ss.map fun p => p.cps.toList) := by
    rw [ey]
    exact stripped_text fun w hw c hc => h w hw c (by simpa using hc)
  have ho := opens_text (ss.map fun p => p.cps.toList)
  unfold checkOf
  rw [hl]
  refine ⟨fun h1 h2 => ?_, fun h2 => ?_⟩
  · rw [ho.1 h1, h2]; rfl
  · cases e : opensOf (bareText (ss.map fun p => p.cps.toList)) 0 with
    | none => rfl
    | some p => 
      rw [ho.2 p e]
      exact decide_eq_false h2

-- NEEDS: p00_head p01_search p02_ledger p02d_setall p03_tells p05_get p06_name p07_first p08_taken p15a_free
noncomputable def rg0 : List (List Nat) := [[1, 0, 0, 0, 0, 0]]
noncomputable def rg1 : List (List Nat) := [[0, 17, 9, 5, 3, 2]]
noncomputable def rg2 : List (List Nat) := [[0, 17, 9, 5, 3, 0]]
noncomputable def rg3 : List (List Nat) := [[0, 17, 9, 5, 0, 2], [0, 17, 9, 5, 0, 4]]
noncomputable def rg4 : List (List Nat) := [[0, 17, 9, 5, 0, 0]]
noncomputable def rg5 : List (List Nat) := [[0, 17, 9, 0, 3, 2], [0, 17, 9, 0, 7, 2], [0, 17, 9, 0, 7, 4], [0, 17, 9, 0, 7, 6]]
noncomputable def rg6 : List (List Nat) := [[0, 17, 9, 0, 3, 0], [0, 17, 9, 0, 7, 0]]
noncomputable def rg7 : List (List Nat) := [[0, 17, 9, 0, 0, 2], [0, 17, 9, 0, 0, 4], [0, 17, 9, 0, 0, 6], [0, 17, 9, 0, 0, 8]]
noncomputable def rg8 : List (List Nat) := [[0, 17, 9, 0, 0, 0]]
noncomputable def rg9 : List (List Nat) := [[0, 17, 0, 5, 3, 2], [0, 17, 0, 13, 3, 2], [0, 17, 0, 13, 7, 2], [0, 17, 0, 13, 7, 4], [0, 17, 0, 13, 7, 6], [0, 17, 0, 13, 11, 2], [0, 17, 0, 13, 11, 4], [0, 17, 0, 13, 11, 6], [0, 17, 0, 13, 11, 8], [0, 17, 0, 13, 11, 10]]
noncomputable def rg10 : List (List Nat) := [[0, 17, 0, 5, 3, 0], [0, 17, 0, 13, 3, 0], [0, 17, 0, 13, 7, 0], [0, 17, 0, 13, 11, 0]]
noncomputable def rg11 : List (List Nat) := [[0, 17, 0, 5, 0, 2], [0, 17, 0, 5, 0, 4], [0, 17, 0, 13, 0, 2], [0, 17, 0, 13, 0, 4], [0, 17, 0, 13, 0, 6], [0, 17, 0, 13, 0, 8], [0, 17, 0, 13, 0, 10], [0, 17, 0, 13, 0, 12]]
noncomputable def rg12 : List (List Nat) := [[0, 17, 0, 5, 0, 0], [0, 17, 0, 13, 0, 0]]
noncomputable def rg13 : List (List Nat) := [[0, 17, 0, 0, 3, 2], [0, 17, 0, 0, 7, 2], [0, 17, 0, 0, 7, 4], [0, 17, 0, 0, 7, 6], [0, 17, 0, 0, 11, 2], [0, 17, 0, 0, 11, 4], [0, 17, 0, 0, 11, 6], [0, 17, 0, 0, 11, 8], [0, 17, 0, 0, 11, 10], [0, 17, 0, 0, 15, 2], [0, 17, 0, 0, 15, 4], [0, 17, 0, 0, 15, 6], [0, 17, 0, 0, 15, 8], [0, 17, 0, 0, 15, 10], [0, 17, 0, 0, 15, 12], [0, 17, 0, 0, 15, 14]]
noncomputable def rg14 : List (List Nat) := [[0, 17, 0, 0, 3, 0], [0, 17, 0, 0, 7, 0], [0, 17, 0, 0, 11, 0], [0, 17, 0, 0, 15, 0]]
noncomputable def rg15 : List (List Nat) := [[0, 17, 0, 0, 0, 2], [0, 17, 0, 0, 0, 4], [0, 17, 0, 0, 0, 6], [0, 17, 0, 0, 0, 8], [0, 17, 0, 0, 0, 10], [0, 17, 0, 0, 0, 12], [0, 17, 0, 0, 0, 14], [0, 17, 0, 0, 0, 16]]
noncomputable def rg16 : List (List Nat) := [[0, 17, 0, 0, 0, 0]]
noncomputable def rg17 : List (List Nat) := [[0, 0, 9, 5, 3, 2], [0, 0, 25, 5, 3, 2], [0, 0, 25, 13, 3, 2], [0, 0, 25, 13, 7, 2], [0, 0, 25, 13, 7, 4], [0, 0, 25, 13, 7, 6], [0, 0, 25, 13, 11, 2], [0, 0, 25, 13, 11, 4], [0, 0, 25, 13, 11, 6], [0, 0, 25, 13, 11, 8], [0, 0, 25, 13, 11, 10], [0, 0, 25, 21, 3, 2], [0, 0, 25, 21, 7, 2], [0, 0, 25, 21, 7, 4], [0, 0, 25, 21, 7, 6], [0, 0, 25, 21, 11, 2], [0, 0, 25, 21, 11, 4], [0, 0, 25, 21, 11, 6], [0, 0, 25, 21, 11, 8], [0, 0, 25, 21, 11, 10], [0, 0, 25, 21, 15, 2], [0, 0, 25, 21, 15, 4], [0, 0, 25, 21, 15, 6], [0, 0, 25, 21, 15, 8], [0, 0, 25, 21, 15, 10], [0, 0, 25, 21, 15, 12], [0, 0, 25, 21, 15, 14], [0, 0, 25, 21, 19, 2], [0, 0, 25, 21, 19, 4], [0, 0, 25, 21, 19, 6], [0, 0, 25, 21, 19, 8], [0, 0, 25, 21, 19, 10], [0, 0, 25, 21, 19, 12], [0, 0, 25, 21, 19, 14], [0, 0, 25, 21, 19, 16], [0, 0, 25, 21, 19, 18]]
noncomputable def rg18 : List (List Nat) := [[0, 0, 9, 5, 3, 0], [0, 0, 25, 5, 3, 0], [0, 0, 25, 13, 3, 0], [0, 0, 25, 13, 7, 0], [0, 0, 25, 13, 11, 0], [0, 0, 25, 21, 3, 0], [0, 0, 25, 21, 7, 0], [0, 0, 25, 21, 11, 0], [0, 0, 25, 21, 15, 0], [0, 0, 25, 21, 19, 0]]
noncomputable def rg19 : List (List Nat) := [[0, 0, 9, 5, 0, 2], [0, 0, 9, 5, 0, 4], [0, 0, 25, 5, 0, 2], [0, 0, 25, 5, 0, 4], [0, 0, 25, 13, 0, 2], [0, 0, 25, 13, 0, 4], [0, 0, 25, 13, 0, 6], [0, 0, 25, 13, 0, 8], [0, 0, 25, 13, 0, 10], [0, 0, 25, 13, 0, 12], [0, 0, 25, 21, 0, 2], [0, 0, 25, 21, 0, 4], [0, 0, 25, 21, 0, 6], [0, 0, 25, 21, 0, 8], [0, 0, 25, 21, 0, 10], [0, 0, 25, 21, 0, 12], [0, 0, 25, 21, 0, 14], [0, 0, 25, 21, 0, 16], [0, 0, 25, 21, 0, 18], [0, 0, 25, 21, 0, 20]]
noncomputable def rg20 : List (List Nat) := [[0, 0, 9, 5, 0, 0], [0, 0, 25, 5, 0, 0], [0, 0, 25, 13, 0, 0], [0, 0, 25, 21, 0, 0]]
noncomputable def rg21 : List (List Nat) := [[0, 0, 9, 0, 3, 2], [0, 0, 9, 0, 7, 2], [0, 0, 9, 0, 7, 4], [0, 0, 9, 0, 7, 6], [0, 0, 25, 0, 3, 2], [0, 0, 25, 0, 7, 2], [0, 0, 25, 0, 7, 4], [0, 0, 25, 0, 7, 6], [0, 0, 25, 0, 11, 2], [0, 0, 25, 0, 11, 4], [0, 0, 25, 0, 11, 6], [0, 0, 25, 0, 11, 8], [0, 0, 25, 0, 11, 10], [0, 0, 25, 0, 15, 2], [0, 0, 25, 0, 15, 4], [0, 0, 25, 0, 15, 6], [0, 0, 25, 0, 15, 8], [0, 0, 25, 0, 15, 10], [0, 0, 25, 0, 15, 12], [0, 0, 25, 0, 15, 14], [0, 0, 25, 0, 19, 2], [0, 0, 25, 0, 19, 4], [0, 0, 25, 0, 19, 6], [0, 0, 25, 0, 19, 8], [0, 0, 25, 0, 19, 10], [0, 0, 25, 0, 19, 12], [0, 0, 25, 0, 19, 14], [0, 0, 25, 0, 19, 16], [0, 0, 25, 0, 19, 18], [0, 0, 25, 0, 23, 2], [0, 0, 25, 0, 23, 4], [0, 0, 25, 0, 23, 6], [0, 0, 25, 0, 23, 8], [0, 0, 25, 0, 23, 10], [0, 0, 25, 0, 23, 12], [0, 0, 25, 0, 23, 14], [0, 0, 25, 0, 23, 16], [0, 0, 25, 0, 23, 18], [0, 0, 25, 0, 23, 20], [0, 0, 25, 0, 23, 22]]
noncomputable def rg22 : List (List Nat) := [[0, 0, 9, 0, 3, 0], [0, 0, 9, 0, 7, 0], [0, 0, 25, 0, 3, 0], [0, 0, 25, 0, 7, 0], [0, 0, 25, 0, 11, 0], [0, 0, 25, 0, 15, 0], [0, 0, 25, 0, 19, 0], [0, 0, 25, 0, 23, 0]]
noncomputable def rg23 : List (List Nat) := [[0, 0, 9, 0, 0, 2], [0, 0, 9, 0, 0, 4], [0, 0, 9, 0, 0, 6], [0, 0, 9, 0, 0, 8], [0, 0, 25, 0, 0, 2], [0, 0, 25, 0, 0, 4], [0, 0, 25, 0, 0, 6], [0, 0, 25, 0, 0, 8], [0, 0, 25, 0, 0, 10], [0, 0, 25, 0, 0, 12], [0, 0, 25, 0, 0, 14], [0, 0, 25, 0, 0, 16], [0, 0, 25, 0, 0, 18], [0, 0, 25, 0, 0, 20], [0, 0, 25, 0, 0, 22], [0, 0, 25, 0, 0, 24]]
noncomputable def rg24 : List (List Nat) := [[0, 0, 9, 0, 0, 0], [0, 0, 25, 0, 0, 0]]
noncomputable def rg25 : List (List Nat) := [[0, 0, 0, 5, 3, 2], [0, 0, 0, 13, 3, 2], [0, 0, 0, 13, 7, 2], [0, 0, 0, 13, 7, 4], [0, 0, 0, 13, 7, 6], [0, 0, 0, 13, 11, 2], [0, 0, 0, 13, 11, 4], [0, 0, 0, 13, 11, 6], [0, 0, 0, 13, 11, 8], [0, 0, 0, 13, 11, 10], [0, 0, 0, 21, 3, 2], [0, 0, 0, 21, 7, 2], [0, 0, 0, 21, 7, 4], [0, 0, 0, 21, 7, 6], [0, 0, 0, 21, 11, 2], [0, 0, 0, 21, 11, 4], [0, 0, 0, 21, 11, 6], [0, 0, 0, 21, 11, 8], [0, 0, 0, 21, 11, 10], [0, 0, 0, 21, 15, 2], [0, 0, 0, 21, 15, 4], [0, 0, 0, 21, 15, 6], [0, 0, 0, 21, 15, 8], [0, 0, 0, 21, 15, 10], [0, 0, 0, 21, 15, 12], [0, 0, 0, 21, 15, 14], [0, 0, 0, 21, 19, 2], [0, 0, 0, 21, 19, 4], [0, 0, 0, 21, 19, 6], [0, 0, 0, 21, 19, 8], [0, 0, 0, 21, 19, 10], [0, 0, 0, 21, 19, 12], [0, 0, 0, 21, 19, 14], [0, 0, 0, 21, 19, 16], [0, 0, 0, 21, 19, 18], [0, 0, 0, 29, 3, 2], [0, 0, 0, 29, 7, 2], [0, 0, 0, 29, 7, 4], [0, 0, 0, 29, 7, 6], [0, 0, 0, 29, 11, 2], [0, 0, 0, 29, 11, 4], [0, 0, 0, 29, 11, 6], [0, 0, 0, 29, 11, 8], [0, 0, 0, 29, 11, 10], [0, 0, 0, 29, 15, 2], [0, 0, 0, 29, 15, 4], [0, 0, 0, 29, 15, 6], [0, 0, 0, 29, 15, 8], [0, 0, 0, 29, 15, 10], [0, 0, 0, 29, 15, 12], [0, 0, 0, 29, 15, 14], [0, 0, 0, 29, 19, 2], [0, 0, 0, 29, 19, 4], [0, 0, 0, 29, 19, 6], [0, 0, 0, 29, 19, 8], [0, 0, 0, 29, 19, 10], [0, 0, 0, 29, 19, 12], [0, 0, 0, 29, 19, 14], [0, 0, 0, 29, 19, 16], [0, 0, 0, 29, 19, 18], [0, 0, 0, 29, 23, 2], [0, 0, 0, 29, 23, 4], [0, 0, 0, 29, 23, 6], [0, 0, 0, 29, 23, 8], [0, 0, 0, 29, 23, 10], [0, 0, 0, 29, 23, 12], [0, 0, 0, 29, 23, 14], [0, 0, 0, 29, 23, 16], [0, 0, 0, 29, 23, 18], [0, 0, 0, 29, 23, 20], [0, 0, 0, 29, 23, 22], [0, 0, 0, 29, 27, 2], [0, 0, 0, 29, 27, 4], [0, 0, 0, 29, 27, 6], [0, 0, 0, 29, 27, 8], [0, 0, 0, 29, 27, 10], [0, 0, 0, 29, 27, 12], [0, 0, 0, 29, 27, 14], [0, 0, 0, 29, 27, 16], [0, 0, 0, 29, 27, 18], [0, 0, 0, 29, 27, 20], [0, 0, 0, 29, 27, 22], [0, 0, 0, 29, 27, 24], [0, 0, 0, 29, 27, 26]]
noncomputable def rg26 : List (List Nat) := [[0, 0, 0, 5, 3, 0], [0, 0, 0, 13, 3, 0], [0, 0, 0, 13, 7, 0], [0, 0, 0, 13, 11, 0], [0, 0, 0, 21, 3, 0], [0, 0, 0, 21, 7, 0], [0, 0, 0, 21, 11, 0], [0, 0, 0, 21, 15, 0], [0, 0, 0, 21, 19, 0], [0, 0, 0, 29, 3, 0], [0, 0, 0, 29, 7, 0], [0, 0, 0, 29, 11, 0], [0, 0, 0, 29, 15, 0], [0, 0, 0, 29, 19, 0], [0, 0, 0, 29, 23, 0], [0, 0, 0, 29, 27, 0]]
noncomputable def rg27 : List (List Nat) := [[0, 0, 0, 5, 0, 2], [0, 0, 0, 5, 0, 4], [0, 0, 0, 13, 0, 2], [0, 0, 0, 13, 0, 4], [0, 0, 0, 13, 0, 6], [0, 0, 0, 13, 0, 8], [0, 0, 0, 13, 0, 10], [0, 0, 0, 13, 0, 12], [0, 0, 0, 21, 0, 2], [0, 0, 0, 21, 0, 4], [0, 0, 0, 21, 0, 6], [0, 0, 0, 21, 0, 8], [0, 0, 0, 21, 0, 10], [0, 0, 0, 21, 0, 12], [0, 0, 0, 21, 0, 14], [0, 0, 0, 21, 0, 16], [0, 0, 0, 21, 0, 18], [0, 0, 0, 21, 0, 20], [0, 0, 0, 29, 0, 2], [0, 0, 0, 29, 0, 4], [0, 0, 0, 29, 0, 6], [0, 0, 0, 29, 0, 8], [0, 0, 0, 29, 0, 10], [0, 0, 0, 29, 0, 12], [0, 0, 0, 29, 0, 14], [0, 0, 0, 29, 0, 16], [0, 0, 0, 29, 0, 18], [0, 0, 0, 29, 0, 20], [0, 0, 0, 29, 0, 22], [0, 0, 0, 29, 0, 24], [0, 0, 0, 29, 0, 26], [0, 0, 0, 29, 0, 28]]
noncomputable def rg28 : List (List Nat) := [[0, 0, 0, 5, 0, 0], [0, 0, 0, 13, 0, 0], [0, 0, 0, 21, 0, 0], [0, 0, 0, 29, 0, 0]]
noncomputable def rg29 : List (List Nat) := [[0, 0, 0, 0, 3, 2], [0, 0, 0, 0, 7, 2], [0, 0, 0, 0, 7, 4], [0, 0, 0, 0, 7, 6], [0, 0, 0, 0, 11, 2], [0, 0, 0, 0, 11, 4], [0, 0, 0, 0, 11, 6], [0, 0, 0, 0, 11, 8], [0, 0, 0, 0, 11, 10], [0, 0, 0, 0, 15, 2], [0, 0, 0, 0, 15, 4], [0, 0, 0, 0, 15, 6], [0, 0, 0, 0, 15, 8], [0, 0, 0, 0, 15, 10], [0, 0, 0, 0, 15, 12], [0, 0, 0, 0, 15, 14], [0, 0, 0, 0, 19, 2], [0, 0, 0, 0, 19, 4], [0, 0, 0, 0, 19, 6], [0, 0, 0, 0, 19, 8], [0, 0, 0, 0, 19, 10], [0, 0, 0, 0, 19, 12], [0, 0, 0, 0, 19, 14], [0, 0, 0, 0, 19, 16], [0, 0, 0, 0, 19, 18], [0, 0, 0, 0, 23, 2], [0, 0, 0, 0, 23, 4], [0, 0, 0, 0, 23, 6], [0, 0, 0, 0, 23, 8], [0, 0, 0, 0, 23, 10], [0, 0, 0, 0, 23, 12], [0, 0, 0, 0, 23, 14], [0, 0, 0, 0, 23, 16], [0, 0, 0, 0, 23, 18], [0, 0, 0, 0, 23, 20], [0, 0, 0, 0, 23, 22], [0, 0, 0, 0, 27, 2], [0, 0, 0, 0, 27, 4], [0, 0, 0, 0, 27, 6], [0, 0, 0, 0, 27, 8], [0, 0, 0, 0, 27, 10], [0, 0, 0, 0, 27, 12], [0, 0, 0, 0, 27, 14], [0, 0, 0, 0, 27, 16], [0, 0, 0, 0, 27, 18], [0, 0, 0, 0, 27, 20], [0, 0, 0, 0, 27, 22], [0, 0, 0, 0, 27, 24], [0, 0, 0, 0, 27, 26], [0, 0, 0, 0, 31, 2], [0, 0, 0, 0, 31, 4], [0, 0, 0, 0, 31, 6], [0, 0, 0, 0, 31, 8], [0, 0, 0, 0, 31, 10], [0, 0, 0, 0, 31, 12], [0, 0, 0, 0, 31, 14], [0, 0, 0, 0, 31, 16], [0, 0, 0, 0, 31, 18], [0, 0, 0, 0, 31, 20], [0, 0, 0, 0, 31, 22], [0, 0, 0, 0, 31, 24], [0, 0, 0, 0, 31, 26], [0, 0, 0, 0, 31, 28], [0, 0, 0, 0, 31, 30]]
noncomputable def rg30 : List (List Nat) := [[0, 0, 0, 0, 3, 0], [0, 0, 0, 0, 7, 0], [0, 0, 0, 0, 11, 0], [0, 0, 0, 0, 15, 0], [0, 0, 0, 0, 19, 0], [0, 0, 0, 0, 23, 0], [0, 0, 0, 0, 27, 0], [0, 0, 0, 0, 31, 0]]
noncomputable def rg31 : List (List Nat) := [[0, 0, 0, 0, 0, 2], [0, 0, 0, 0, 0, 4], [0, 0, 0, 0, 0, 6], [0, 0, 0, 0, 0, 8], [0, 0, 0, 0, 0, 10], [0, 0, 0, 0, 0, 12], [0, 0, 0, 0, 0, 14], [0, 0, 0, 0, 0, 16], [0, 0, 0, 0, 0, 18], [0, 0, 0, 0, 0, 20], [0, 0, 0, 0, 0, 22], [0, 0, 0, 0, 0, 24], [0, 0, 0, 0, 0, 26], [0, 0, 0, 0, 0, 28], [0, 0, 0, 0, 0, 30], [0, 0, 0, 0, 0, 32]]
noncomputable def rg32 : List (List Nat) := [[0, 0, 0, 0, 0, 0]]
noncomputable def rg : List (List (List Nat)) := [rg0, rg1, rg2, rg3, rg4, rg5, rg6, rg7, rg8, rg9, rg10, rg11, rg12, rg13, rg14, rg15, rg16, rg17, rg18, rg19, rg20, rg21, rg22, rg23, rg24, rg25, rg26, rg27, rg28, rg29, rg30, rg31, rg32]
noncomputable def at6 (x : List Nat) (k : Nat) : Nat := x.getD k 0
/-- what is used, of 256 -/
noncomputable def usedC (x : List Nat) : Nat := 256 - ((List.range 6).map fun k => if at6 x k = 0 then 0 else 256 / 2 ^ k).sum
noncomputable def freeAt (x : List Nat) (i : Nat) : Bool := (List.range 6).any fun k => at6 x k != 0 && (at6 x k - 1 ≤ i && i < at6 x k - 1 + 32 / 2 ^ k)
noncomputable def cellsC (x : List Nat) : List Int := (List.range 32).map fun i => if freeAt x i then 0 else 1
noncomputable def haveC (x : List Nat) : Nat → Option Nat
  | 0 => none
  | n + 1 => if at6 x n = 0 then haveC x n else some n
noncomputable def fillC (a : Nat) : Nat → Nat → List Nat → List Nat
  | 0, _, x => x
  | n + 1, h, x => fillC a n (h + 1) (x.set (h + 1) (a + 32 / 2 ^ (h + 1) + 1))
noncomputable def nextC (x : List Nat) (s h : Nat) : List Nat := fillC (at6 x h - 1) (s - h) h (x.set h 0)
noncomputable def startC (x : List Nat) (s : Nat) : Option Nat := (haveC x (s + 1)).map fun h => at6 x h - 1
/-- the free cells as the figures of a number -/
noncomputable def blockM (s W : Nat) : Nat := (2 ^ W - 1) <<< s
noncomputable def maskC (x : List Nat) : Nat := (List.range 6).foldl (fun m k => if at6 x k = 0 then m else m ||| blockM (at6 x k - 1) (32 / 2 ^ k)) 0
noncomputable def firstB (m W : Nat) : Nat → Nat → Option Nat
  | 0, _ => none
  | k + 1, i => if (m >>> (i * W)) % 2 ^ W = 2 ^ W - 1 then some (i * W) else firstB m W k (i + 1)
theorem block_bit (s W i : Nat) : (blockM s W).testBit i = (decide (s ≤ i) && decide (i < s + W)) := by
  unfold blockM
  rw [Nat.testBit_shiftLeft, Nat.testBit_two_pow_sub_one]
  by_cases h : s ≤ i
  · simp only [ge_iff_le, h, decide_true, Bool.true_and]
    rw [decide_eq_decide]; omega
  · simp [h]
theorem mask_fold (x : List Nat) (i : Nat) : ∀ (l : List Nat) (m : Nat), (l.foldl (fun m k => if at6 x k = 0 then m else m ||| blockM (at6 x k - 1) (32 / 2 ^ k)) m).testBit i = (m.testBit i || l.any fun k => at6 x k != 0 && (decide (at6 x k - 1 ≤ i) && decide (i < at6 x k - 1 + 32 / 2 ^ k)))
  | [], m => by simp
  | k :: r, m => by
    rw [List.foldl_cons, mask_fold x i r, List.any_cons]
    by_cases h : at6 x k = 0
    · rw [if_pos h]; simp [h]
    · rw [if_neg h, Nat.testBit_or, block_bit, show (at6 x k != 0) = true by simpa using h, Bool.true_and, Bool.or_assoc]
theorem mask_bit (x : List Nat) (i : Nat) : (maskC x).testBit i = freeAt x i := by
  unfold maskC freeAt
  rw [mask_fold]
  simp
theorem ones_iff (m s W : Nat) : (m >>> s) % 2 ^ W = 2 ^ W - 1 ↔ ∀ t < W, m.testBit (s + t) = true := by
  constructor
  · intro h t ht
    have := congrArg (fun z => z.testBit t) h
    simpa [Nat.testBit_mod_two_pow, Nat.testBit_shiftRight, Nat.testBit_two_pow_sub_one, ht] using this
  · intro h
    refine Nat.eq_of_testBit_eq fun t => ?_
    rw [Nat.testBit_mod_two_pow, Nat.testBit_shiftRight, Nat.testBit_two_pow_sub_one]
    by_cases ht : t < W
    · simp [ht, h t ht]
    · simp [ht]
theorem cells_sum (x : List Nat) : ∀ l : List Nat, 0 ≤ (l.map fun i => if freeAt x i then (0 : Int) else 1).sum ∧ ((l.map fun i => if freeAt x i then (0 : Int) else 1).sum = 0 ↔ ∀ i ∈ l, freeAt x i = true)
  | [] => by simp
  | i :: r => by
    obtain ⟨h1, h2⟩ := cells_sum x r
    rw [List.map_cons, List.sum_cons]
    by_cases h : freeAt x i = true
    · rw [if_pos h]
      refine ⟨by omega, ?_⟩
      rw [Int.zero_add, h2, List.forall_mem_cons]
      exact ⟨fun q => ⟨h, q⟩, fun q => q.2⟩
    · rw [if_neg h]
      refine ⟨by omega, ?_⟩
      rw [List.forall_mem_cons]
      exact ⟨fun q => by omega, fun q => absurd q.1 h⟩
theorem range_part {s W i : Nat} (h : s + W ≤ 32) : i ∈ ((List.range 32).drop s).take W ↔ s ≤ i ∧ i < s + W := by
  rw [List.mem_iff_getElem]
  simp only [List.getElem_take, List.getElem_drop, List.getElem_range, List.length_take, List.length_drop, List.length_range]
  constructor
  · rintro ⟨n, hn, rfl⟩; omega
  · rintro ⟨h1, h2⟩; exact ⟨i - s, by omega, by omega⟩
theorem first_from (x : List Nat) (W : Nat) : ∀ (k i : Nat), (i + k) * W ≤ 32 → firstFrom (cellsC x) W k i = firstB (maskC x) W k i
  | 0, _, _ => rfl
  | k + 1, i, h => by
    unfold firstFrom firstB
    have h0 : i * W + W ≤ 32 := by
      have e : (i + 1) * W ≤ (i + (k + 1)) * W := Nat.mul_le_mul_right W (by omega)
      rw [Nat.add_mul, Nat.one_mul] at e
      omega
    rw [first_from x W k (i + 1) (by rwa [show i + 1 + k = i + (k + 1) by omega])]
    have e : (((cellsC x).drop (i * W)).take W).sum = 0 ↔ (maskC x >>> (i * W)) % 2 ^ W = 2 ^ W - 1 := by
      unfold cellsC
      rw [← List.map_drop, ← List.map_take, (cells_sum x _).2, ones_iff]
      constructor
      · intro q t ht
        rw [mask_bit]
        exact q _ ((range_part h0).mpr ⟨by omega, by omega⟩)
      · intro q j hj
        obtain ⟨j1, j2⟩ := (range_part h0).mp hj
        have := q (j - i * W) (by omega)
        rwa [mask_bit, show i * W + (j - i * W) = j by omega] at this
    by_cases q : (((cellsC x).drop (i * W)).take W).sum = 0
    · rw [if_pos q, if_pos (e.mp q)]
    · rw [if_neg q, if_neg fun z => q (e.mpr z)]
theorem first_mask (x : List Nat) (s : Nat) : firstOf (cellsC x) (s : Nat) = firstB (maskC x) (32 / 2 ^ s) (32 / (32 / 2 ^ s)) 0 := by
  unfold firstOf
  rw [show wideOf (s : Nat) = 32 / 2 ^ s from rfl]
  exact first_from x _ _ _ (by rw [Nat.zero_add]; exact Nat.div_mul_le_self 32 _)
theorem taken_range (f g : Nat → Int) (a w : Nat) (h : a + w ≤ 32) (hg : ∀ i < 32, g i = if a ≤ i ∧ i < a + w then 1 else f i) : ((List.range 32).map f).take a ++ List.replicate w 1 ++ ((List.range 32).map f).drop (a + w) = (List.range 32).map g := by
  refine List.ext_getElem ?_ fun i h1 h2 => ?_
  · simp only [List.length_append, List.length_take, List.length_drop, List.length_map, List.length_range, List.length_replicate]; omega
  · have hi : i < 32 := by simpa using h2
    rw [List.getElem_map, List.getElem_range, hg i hi]
    simp only [List.getElem_append, List.length_append, List.length_take, List.length_map, List.length_range, List.length_replicate, List.getElem_take, List.getElem_map, List.getElem_range, List.getElem_replicate, List.getElem_drop]
    have e1 : min a 32 = a := by omega
    simp only [e1]
    split
    · split
      · rw [if_neg (by omega)]
      · rw [if_pos (by omega)]
    · rw [if_neg (by omega), show a + w + (i - (a + w)) = i by omega]
theorem taken_mask {x y : List Nat} {a s : Nat} (h : a + 32 / 2 ^ s ≤ 32) (h1 : maskC x = maskC y ||| blockM a (32 / 2 ^ s)) (h2 : maskC y &&& blockM a (32 / 2 ^ s) = 0) : takenOf (cellsC x) a (s : Nat) = cellsC y := by
  unfold takenOf cellsC
  rw [show wideOf (s : Nat) = 32 / 2 ^ s from rfl]
  refine taken_range _ _ _ _ h fun i _ => ?_
  have e1 : freeAt x i = (freeAt y i || (decide (a ≤ i) && decide (i < a + 32 / 2 ^ s))) := by
    rw [← mask_bit, ← mask_bit, h1, Nat.testBit_or, block_bit]
  have e2 : (freeAt y i && (decide (a ≤ i) && decide (i < a + 32 / 2 ^ s))) = false := by
    rw [← mask_bit, ← block_bit, ← Nat.testBit_and, h2, Nat.zero_testBit]
  by_cases q : a ≤ i ∧ i < a + 32 / 2 ^ s
  · rw [if_pos q]
    rw [decide_eq_true q.1, decide_eq_true q.2] at e2
    have : freeAt y i = false := by simpa using e2
    rw [this]; rfl
  · rw [if_neg q]
    have : (decide (a ≤ i) && decide (i < a + 32 / 2 ^ s)) = false := by
      rw [Bool.and_eq_false_iff, decide_eq_false_iff_not, decide_eq_false_iff_not]
      by_cases z : a ≤ i
      · exact .inr fun z' => q ⟨z, z'⟩
      · exact .inl z
    rw [e1, this, Bool.or_false]
/-- one turn from x by the size s is as the law says -/
noncomputable def okTurn (x : List Nat) (s : Nat) : Bool := match haveC x (s + 1) with
  | none => firstB (maskC x) (32 / 2 ^ s) (32 / (32 / 2 ^ s)) 0 == none && decide (256 < usedC x + 256 / 2 ^ s)
  | some h =>
    let y := nextC x s h
    let a := at6 x h - 1
    firstB (maskC x) (32 / 2 ^ s) (32 / (32 / 2 ^ s)) 0 == some a && decide (a + 32 / 2 ^ s ≤ 32) && decide (usedC x + 256 / 2 ^ s ≤ 256) && (Nat.beq (maskC x) (maskC y ||| blockM a (32 / 2 ^ s)) && Nat.beq (maskC y &&& blockM a (32 / 2 ^ s)) 0) && Nat.beq (usedC y) (usedC x + 256 / 2 ^ s) && (rg.getD (usedC y / 8) []).contains y &&
      [1, 2, 3, 4, 5].all fun t => match startC y t with | none => true | some b' => match startC x t with | none => false | some b => decide (b ≤ b') && (t != s || decide (b < b'))
noncomputable def okC (x : List Nat) : Bool := decide (usedC x ≤ 256) && ((List.range 6).all fun k => ((256 - usedC x) / 2 ^ (8 - k) % 2 == 1) == (at6 x k != 0) && (at6 x k == 0 || ((at6 x k - 1) % (32 / 2 ^ k) == 0 && decide (at6 x k - 1 < 32)))) && x.length == 6 && [1, 2, 3, 4, 5].all fun s => okTurn x s
theorem ok_g0 : rg0.all okC = true := by decide +kernel
theorem ok_g1 : rg1.all okC = true := by decide +kernel
theorem ok_g2 : rg2.all okC = true := by decide +kernel
theorem ok_g3 : rg3.all okC = true := by decide +kernel
theorem ok_g4 : rg4.all okC = true := by decide +kernel
theorem ok_g5 : rg5.all okC = true := by decide +kernel
theorem ok_g6 : rg6.all okC = true := by decide +kernel
theorem ok_g7 : rg7.all okC = true := by decide +kernel
theorem ok_g8 : rg8.all okC = true := by decide +kernel
theorem ok_g9 : rg9.all okC = true := by decide +kernel
theorem ok_g10 : rg10.all okC = true := by decide +kernel
theorem ok_g11 : rg11.all okC = true := by decide +kernel
theorem ok_g12 : rg12.all okC = true := by decide +kernel
theorem ok_g13 : rg13.all okC = true := by decide +kernel
theorem ok_g14 : rg14.all okC = true := by decide +kernel
theorem ok_g15 : rg15.all okC = true := by decide +kernel
theorem ok_g16 : rg16.all okC = true := by decide +kernel
theorem ok_g17 : rg17.all okC = true := by decide +kernel
theorem ok_g18 : rg18.all okC = true := by decide +kernel
theorem ok_g19 : rg19.all okC = true := by decide +kernel
theorem ok_g20 : rg20.all okC = true := by decide +kernel
theorem ok_g21 : rg21.all okC = true := by decide +kernel
theorem ok_g22 : rg22.all okC = true := by decide +kernel
theorem ok_g23 : rg23.all okC = true := by decide +kernel
theorem ok_g24 : rg24.all okC = true := by decide +kernel
theorem ok_g25 : rg25.all okC = true := by decide +kernel
theorem ok_g26 : rg26.all okC = true := by decide +kernel
theorem ok_g27 : rg27.all okC = true := by decide +kernel
theorem ok_g28 : rg28.all okC = true := by decide +kernel
theorem ok_g29 : rg29.all okC = true := by decide +kernel
theorem ok_g30 : rg30.all okC = true := by decide +kernel
theorem ok_g31 : rg31.all okC = true := by decide +kernel
theorem ok_g32 : rg32.all okC = true := by decide +kernel
theorem ok_all : ∀ g ∈ rg, g.all okC = true := by
  intro g hg
  simp only [rg, List.mem_cons, List.not_mem_nil, or_false] at hg
  rcases hg with rfl | rfl | rfl | rfl | rfl | rfl | rfl | rfl | rfl | rfl | rfl | rfl | rfl | rfl | rfl | rfl | rfl | rfl | rfl | rfl | rfl | rfl | rfl | rfl | rfl | rfl | rfl | rfl | rfl | rfl | rfl | rfl | rfl
  · exact ok_g0
  · exact ok_g1
  · exact ok_g2
  · exact ok_g3
  · exact ok_g4
  · exact ok_g5
  · exact ok_g6
  · exact ok_g7
  · exact ok_g8
  · exact ok_g9
  · exact ok_g10
  · exact ok_g11
  · exact ok_g12
  · exact ok_g13
  · exact ok_g14
  · exact ok_g15
  · exact ok_g16
  · exact ok_g17
  · exact ok_g18
  · exact ok_g19
  · exact ok_g20
  · exact ok_g21
  · exact ok_g22
  · exact ok_g23
  · exact ok_g24
  · exact ok_g25
  · exact ok_g26
  · exact ok_g27
  · exact ok_g28
  · exact ok_g29
  · exact ok_g30
  · exact ok_g31
  · exact ok_g32

-- NEEDS: p00_head p02_ledger p02b_loops p02c_comps p03_tells p09_spelled
noncomputable def opn : Str := Str.ofString "("
noncomputable def clo : Str := Str.ofString ")"
theorem spell_split : ∀ h < 5, ∀ a < 32, a % (32 / 2 ^ h) = 0 → spelledOf a (h : Nat) ++ opn = spelledOf a ((h + 1 : Nat) : Int) ∧ spelledOf a (h : Nat) ++ clo = spelledOf (a + 32 / 2 ^ (h + 1)) ((h + 1 : Nat) : Int) := by decide +kernel
theorem spell_zero : ∀ a < 32, spelledOf a ((0 : Nat) : Int) = Str.ofString "" := by decide +kernel
theorem spell_ok : ∀ h < 6, ∀ a < 32, (spelledOf a (h : Nat)).cps.size = h ∧ (spelledOf a (h : Nat)).cps.all (fun c => c == 40 || c == 41) = true := by decide +kernel
theorem spell_rise : ∀ h < 6, ∀ j < 2 ^ h, ∀ i < j, (spelledOf (i * (32 / 2 ^ h)) (h : Nat)).cps.toList < (spelledOf (j * (32 / 2 ^ h)) (h : Nat)).cps.toList := by decide +kernel

-- NEEDS: p00_head p01_search p02_ledger p02d_setall p03_tells p05_get p06_name p07_first p08_taken p09_spelled p15a_free p19l_cfg p19m_spell
structure Match (fs : List (Nat × Str)) (x : List Nat) : Prop where
  look : ∀ k < 6, lookup fs k = if at6 x k = 0 then none else some (spelledOf (at6 x k - 1) (k : Nat))
  nodup : (fs.map (·.1)).Nodup
  le : ∀ p ∈ fs, p.1 ≤ 5
  len : x.length = 6
theorem have_match {fs : List (Nat × Str)} {x : List Nat} (M : Match fs x) : ∀ n ≤ 6, haveOf fs n = haveC x n
  | 0, _ => rfl
  | n + 1, h => by
    unfold haveOf haveC
    rw [M.look n (by omega), have_match M n (by omega)]
    by_cases h0 : at6 x n = 0
    · rw [if_pos h0, if_pos h0]; rfl
    · rw [if_neg h0, if_neg h0]; rfl
theorem lookup_drop (fs : List (Nat × Str)) (k j : Nat) : lookup (dropK fs k) j = if j = k then none else lookup fs j := by
  unfold lookup dropK
  induction fs with
  | nil => simp
  | cons p r ih =>
    rw [List.filter_cons]
    by_cases hp : p.1 = k
    · rw [if_neg (by simp [hp]), ih]
      by_cases hj : j = k
      · rw [if_pos hj, if_pos hj]
      · rw [if_neg hj, if_neg hj, List.find?_cons]
        have : (p.1 == j) = false := by simpa [hp] using fun e => hj e.symm
        rw [this]
    · rw [if_pos (by simpa using hp), List.find?_cons, List.find?_cons]
      by_cases hj : p.1 = j
      · have e : (p.1 == j) = true := by simpa using hj
        rw [e, if_neg (by omega)]
      · have e : (p.1 == j) = false := by simpa using hj
        rw [e]
        exact ih
theorem lookup_put (fs : List (Nat × Str)) (k j : Nat) (w : Str) : lookup (dropK fs k ++ [(k, w)]) j = if j = k then some w else lookup fs j := by
  have h := lookup_drop fs k j
  unfold lookup at h ⊢
  rw [List.find?_append]
  by_cases hj : j = k
  · rw [if_pos hj] at h ⊢
    have e : List.find? (fun p => p.1 == j) (dropK fs k) = none := by simpa using h
    rw [e]
    simp [hj]
  · rw [if_neg hj] at h ⊢
    have e : List.find? (fun p => p.1 == j) [(k, w)] = none := by simp; omega
    rw [e, Option.or_none]
    exact h
theorem at6_set {x : List Nat} {k j v : Nat} (hk : k < x.length) : at6 (x.set k v) j = if j = k then v else at6 x j := by
  unfold at6
  rw [List.getD_eq_getElem?_getD, List.getD_eq_getElem?_getD, List.getElem?_set]
  by_cases h : k = j
  · subst h; simp [hk]
  · rw [if_neg h, if_neg fun e => h e.symm]
theorem nodup_drop {fs : List (Nat × Str)} (h : (fs.map (·.1)).Nodup) (k : Nat) : ((dropK fs k).map (·.1)).Nodup := by
  unfold dropK
  exact h.sublist (List.Sublist.map _ List.filter_sublist)
theorem not_mem_drop (fs : List (Nat × Str)) (k : Nat) : k ∉ (dropK fs k).map (·.1) := by
  intro h
  obtain ⟨p, hp, e⟩ := List.mem_map.mp h
  have := (List.mem_filter.mp hp).2
  simp [e] at this
theorem Match.drop {fs : List (Nat × Str)} {x : List Nat} (M : Match fs x) {k : Nat} (hk : k < 6) : Match (dropK fs k) (x.set k 0) := by
  refine ⟨fun j hj => ?_, nodup_drop M.nodup k, fun p hp => M.le p (List.mem_filter.mp hp).1, by rw [List.length_set]; exact M.len⟩
  rw [lookup_drop, at6_set (by rw [M.len]; exact hk), M.look j hj]
  by_cases h : j = k
  · rw [if_pos h, if_pos h]; rfl
  · rw [if_neg h, if_neg h]
theorem Match.put {fs : List (Nat × Str)} {x : List Nat} (M : Match fs x) {k a : Nat} (hk : k < 6) : Match (dropK fs k ++ [(k, spelledOf a (k : Nat))]) (x.set k (a + 1)) := by
  refine ⟨fun j hj => ?_, ?_, fun p hp => ?_, by rw [List.length_set]; exact M.len⟩
  · rw [lookup_put, at6_set (by rw [M.len]; exact hk), M.look j hj]
    by_cases h : j = k
    · rw [if_pos h, if_pos h, if_neg (by omega), h]; rfl
    · rw [if_neg h, if_neg h]
  · rw [List.map_append, List.nodup_append]
    refine ⟨nodup_drop M.nodup k, by simp, ?_⟩
    intro a' ha b hb
    rw [List.map_cons, List.map_nil, List.mem_singleton] at hb
    subst hb
    intro e
    subst e
    exact not_mem_drop fs _ ha
  · rcases List.mem_append.mp hp with hp | hp
    · exact M.le p (List.mem_filter.mp hp).1
    · rw [List.mem_singleton.mp hp]; show k ≤ 5; omega
theorem fill_match : ∀ (n h : Nat) (fs : List (Nat × Str)) (x : List Nat) (a : Nat), Match fs x → h + n ≤ 5 → a < 32 → a % (32 / 2 ^ h) = 0 →
    (fillUp n h fs (spelledOf a (h : Nat))).1 = spelledOf a ((h + n : Nat) : Int) ∧ Match (fillUp n h fs (spelledOf a (h : Nat))).2 (fillC a n h x)
  | 0, h, fs, x, a, M, _, _, _ => ⟨rfl, M⟩
  | n + 1, h, fs, x, a, M, hn, ha, hm => by
    unfold fillUp fillC
    have s := spell_split h (by omega) a ha hm
    have hm2 : a % (32 / 2 ^ (h + 1)) = 0 := by
      have : h = 0 ∨ h = 1 ∨ h = 2 ∨ h = 3 ∨ h = 4 := by omega
      rcases this with rfl | rfl | rfl | rfl | rfl <;> simp at hm ⊢ <;> omega
    have e1 : spelledOf a (h : Nat) ++ Str.ofString "(" = spelledOf a ((h + 1 : Nat) : Int) := s.1
    have e2 : spelledOf a (h : Nat) ++ Str.ofString ")" = spelledOf (a + 32 / 2 ^ (h + 1)) ((h + 1 : Nat) : Int) := s.2
    rw [e1, e2]
    have ih := fill_match n (h + 1) _ _ a (M.put (k := h + 1) (a := a + 32 / 2 ^ (h + 1)) (by omega)) (by omega) ha hm2
    rw [show h + 1 + n = h + (n + 1) by omega] at ih
    exact ih

-- NEEDS: p00_head p01_search p02_ledger p02d_setall p03_tells p05_get p06_name p07_first p08_taken p09_spelled p15a_free p19l_cfg p19m_spell p19n_match
theorem haveC_some {x : List Nat} : ∀ {n h : Nat}, haveC x n = some h → h < n ∧ at6 x h ≠ 0
  | 0, _, e => nomatch e
  | n + 1, h, e => by
    unfold haveC at e
    by_cases h0 : at6 x n = 0
    · rw [if_pos h0] at e
      have := haveC_some e
      exact ⟨by omega, this.2⟩
    · rw [if_neg h0] at e
      obtain rfl := Option.some.inj e
      exact ⟨Nat.lt_succ_self _, h0⟩
theorem served_match {fs : List (Nat × Str)} {x : List Nat} (M : Match fs x) {s : Nat} (hs : s ≤ 5) (al : ∀ k < 6, at6 x k ≠ 0 → (at6 x k - 1) % (32 / 2 ^ k) = 0 ∧ at6 x k - 1 < 32) : match haveC x (s + 1) with
    | none => servedOf fs s = none
    | some h => ∃ fs', servedOf fs s = some (spelledOf (at6 x h - 1) (s : Nat), fs') ∧ Match fs' (nextC x s h) := by
  unfold servedOf
  rw [have_match M (s + 1) (by omega)]
  cases e : haveC x (s + 1) with
  | none => rfl
  | some h =>
    obtain ⟨h1, h2⟩ := haveC_some e
    have hl := M.look h (by omega)
    rw [if_neg h2] at hl
    dsimp only
    rw [hl]
    dsimp only
    have a := al h (by omega) h2
    have f := fill_match (s - h) h (dropK fs h) (x.set h 0) (at6 x h - 1) (M.drop (by omega)) (by omega) a.2 a.1
    rw [show h + (s - h) = s by omega] at f
    exact ⟨_, congrArg some (Prod.ext f.1 rfl), f.2⟩
/-- a reachable configuration -/
noncomputable def In (x : List Nat) : Prop := x ∈ rg.getD (usedC x / 8) []
theorem In.ok {x : List Nat} (h : In x) : okC x = true := by
  unfold In at h
  have hm : rg.getD (usedC x / 8) [] ∈ rg ∨ rg.getD (usedC x / 8) [] = [] := by
    rw [List.getD_eq_getElem?_getD]
    cases e : rg[usedC x / 8]? with
    | none => exact .inr rfl
    | some g => exact .inl (List.mem_of_getElem? e)
  rcases hm with hm | hm
  · exact List.all_eq_true.mp (ok_all _ hm) x h
  · rw [hm] at h; cases h
theorem In.facts {x : List Nat} (h : In x) : usedC x ≤ 256 ∧ (∀ k < 6, ((256 - usedC x) / 2 ^ (8 - k) % 2 = 1 ↔ at6 x k ≠ 0) ∧ (at6 x k ≠ 0 → (at6 x k - 1) % (32 / 2 ^ k) = 0 ∧ at6 x k - 1 < 32)) ∧ x.length = 6 ∧ ∀ s ∈ [1, 2, 3, 4, 5], okTurn x s = true := by
  have ok := h.ok
  unfold okC at ok
  simp only [Bool.and_eq_true, decide_eq_true_eq, beq_iff_eq] at ok
  obtain ⟨⟨⟨h1, h2⟩, h3⟩, h4⟩ := ok
  refine ⟨h1, fun k hk => ?_, h3, fun s hs => List.all_eq_true.mp h4 s hs⟩
  have hk2 := List.all_eq_true.mp h2 k (List.mem_range.mpr hk)
  rw [Bool.and_eq_true, Bool.or_eq_true, beq_iff_eq, beq_iff_eq] at hk2
  obtain ⟨e1, e2⟩ := hk2
  refine ⟨?_, fun hn => ?_⟩
  · have e3 := Bool.eq_iff_iff.mp e1
    rw [beq_iff_eq, bne_iff_ne] at e3
    exact e3
  · rcases e2 with e2 | e2
    · exact absurd e2 hn
    · rw [Bool.and_eq_true, beq_iff_eq, decide_eq_true_eq] at e2
      exact e2
theorem In.turn {x : List Nat} (hx : In x) {s : Nat} (h1 : 1 ≤ s) (h5 : s ≤ 5) : match haveC x (s + 1) with
    | none => firstOf (cellsC x) (s : Nat) = none ∧ 256 < usedC x + 256 / 2 ^ s
    | some h => firstOf (cellsC x) (s : Nat) = some (at6 x h - 1) ∧ at6 x h - 1 + 32 / 2 ^ s ≤ 32 ∧ usedC x + 256 / 2 ^ s ≤ 256 ∧ takenOf (cellsC x) (at6 x h - 1) (s : Nat) = cellsC (nextC x s h) ∧ usedC (nextC x s h) = usedC x + 256 / 2 ^ s ∧ In (nextC x s h) ∧
        ∀ t ∈ [1, 2, 3, 4, 5], ∀ b', startC (nextC x s h) t = some b' → ∃ b, startC x t = some b ∧ b ≤ b' ∧ (t = s → b < b') := by
  have ok := hx.facts.2.2.2 s (by simp; omega)
  unfold okTurn at ok
  cases e : haveC x (s + 1) with
  | none =>
    rw [e] at ok
    simp only [Bool.and_eq_true, decide_eq_true_eq, beq_iff_eq] at ok
    exact ⟨(first_mask x s).trans ok.1, ok.2⟩
  | some h =>
    rw [e] at ok
    simp only [Bool.and_eq_true, decide_eq_true_eq, beq_iff_eq] at ok
    obtain ⟨⟨⟨⟨⟨⟨o1, o2⟩, o3⟩, o4⟩, o5⟩, o6⟩, o7⟩ := ok
    refine ⟨(first_mask x s).trans o1, o2, o3, taken_mask o2 (Nat.eq_of_beq_eq_true o4.1) (Nat.eq_of_beq_eq_true o4.2), Nat.eq_of_beq_eq_true o5, by simpa [In] using o6, fun t ht b' hb' => ?_⟩
    have o := List.all_eq_true.mp o7 t ht
    rw [hb'] at o
    dsimp only at o
    cases e2 : startC x t with
    | none => rw [e2] at o; cases o
    | some b =>
      rw [e2] at o
      simp only [Bool.and_eq_true, Bool.or_eq_true, decide_eq_true_eq, bne_iff_ne] at o
      refine ⟨b, rfl, o.1, fun et => ?_⟩
      rcases o.2 with h' | h'
      · exact absurd et h'
      · exact h'
/-- the first configuration -/
noncomputable def cfg0 : List Nat := [1, 0, 0, 0, 0, 0]
theorem in_cfg0 : In cfg0 := by unfold In; decide +kernel
theorem used_cfg0 : usedC cfg0 = 0 := by decide +kernel
theorem cells_cfg0 : cellsC cfg0 = List.replicate 32 0 := by decide +kernel
theorem match_cfg0 : Match [(0, Str.ofString "")] cfg0 := ⟨by decide +kernel, by simp, by simp, rfl⟩

-- NEEDS: p00_head p01_search p02_ledger p02d_setall p03_tells p05_get p06_name p07_first p08_taken p09_spelled p15a_free p18_text p19d_strip p19g_leaves p19f_words p19h_parts p19l_cfg p19m_spell p19n_match p19o_turn
theorem haveC_above {x : List Nat} : ∀ {n h : Nat}, haveC x n = some h → ∀ j, h < j → j < n → at6 x j = 0
  | 0, _, e, _, _, _ => nomatch e
  | n + 1, h, e, j, h1, h2 => by
    unfold haveC at e
    by_cases h0 : at6 x n = 0
    · rw [if_pos h0] at e
      by_cases hj : j = n
      · rw [hj]; exact h0
      · exact haveC_above e j h1 (by omega)
    · rw [if_neg h0] at e
      obtain rfl := Option.some.inj e
      omega
theorem drop_none {fs : List (Nat × Str)} {k : Nat} (h : lookup fs k = none) : dropK fs k = fs := by
  unfold dropK
  rw [List.filter_eq_self]
  intro p hp
  unfold lookup at h
  rw [Option.map_eq_none_iff, List.find?_eq_none] at h
  have := h p hp
  simpa using this
noncomputable def sig (p : Str) : List Nat := p.cps.toList
theorem open_sig (w : Str) : sig (w ++ Str.ofString "(") = sig w ++ [40] := by
  unfold sig; rw [cat_list, open_one]
theorem close_sig (w : Str) : sig (w ++ Str.ofString ")") = sig w ++ [41] := by
  unfold sig; rw [cat_list, close_one]
/-- halving a leaf -/
theorem leaves_halve {T ws : List (List Nat)} {w : List Nat} (h : Leaves T) (hp : T.Perm (w :: ws)) : ∃ T', Leaves T' ∧ T'.Perm ((w ++ [40]) :: (w ++ [41]) :: ws) := by
  have hm : w ∈ T := hp.mem_iff.mpr (.head _)
  obtain ⟨l, r, rfl⟩ := List.append_of_mem hm
  refine ⟨_, Leaves.split l r w h, ?_⟩
  have h2 : (l ++ r).Perm ws := List.Perm.cons_inv ((List.perm_middle.symm).trans hp)
  refine List.perm_middle.trans (List.Perm.cons _ ?_)
  exact List.perm_middle.trans (List.Perm.cons _ h2)
theorem fill_leaves : ∀ (n h : Nat) (fs : List (Nat × Str)) (w : Str) (ws : List (List Nat)) (T : List (List Nat)), (∀ j, h < j → j ≤ h + n → lookup fs j = none) → Leaves T → T.Perm (sig w :: (ws ++ fs.map fun p => sig p.2)) →
    ∃ T', Leaves T' ∧ T'.Perm (sig (fillUp n h fs w).1 :: (ws ++ (fillUp n h fs w).2.map fun p => sig p.2))
  | 0, h, fs, w, ws, T, _, hl, hp => ⟨T, hl, hp⟩
  | n + 1, h, fs, w, ws, T, hn, hl, hp => by
    unfold fillUp
    rw [drop_none (hn (h + 1) (by omega) (by omega))]
    obtain ⟨T', hl', hp'⟩ := leaves_halve hl hp
    refine fill_leaves n (h + 1) _ _ ws T' ?_ hl' ?_
    · intro j h1 h2
      have hj := hn j (by omega) (by omega)
      unfold lookup at hj ⊢
      rw [Option.map_eq_none_iff] at hj ⊢
      rw [List.find?_append, hj]
      simp
      omega
    · rw [open_sig, List.map_append]
      refine hp'.trans (List.Perm.cons _ ?_)
      rw [← List.append_assoc]
      refine (List.perm_append_comm (l₁ := [sig w ++ [41]])).trans ?_
      rw [List.map_cons, List.map_nil]
      show List.Perm (_ ++ [sig w ++ [41]]) (_ ++ [sig (w ++ Str.ofString ")")])
      rw [close_sig]
      exact List.Perm.refl _
/-- the free words of halving end with a close bracket -/
theorem fill_close : ∀ (n h : Nat) (fs : List (Nat × Str)) (w : Str), (∀ p ∈ fs, ∃ u, p.2 = u ++ Str.ofString ")") → ∀ p ∈ (fillUp n h fs w).2, ∃ u, p.2 = u ++ Str.ofString ")"
  | 0, _, fs, _, hf => hf
  | n + 1, h, fs, w, hf => by
    unfold fillUp
    refine fill_close n (h + 1) _ _ ?_
    intro p hp
    rcases List.mem_append.mp hp with hp | hp
    · exact hf p (List.mem_filter.mp hp).1
    · rw [List.mem_singleton.mp hp]; exact ⟨w, rfl⟩

-- NEEDS: p00_head p01_search p02_ledger p02d_setall p03_tells p05_get p06_name p07_first p08_taken p09_spelled p15a_free p18_text p19d_strip p19g_leaves p19f_words p19h_parts p19l_cfg p19m_spell p19n_match p19o_turn p19p_fill
theorem lookup_of_mem {fs : List (Nat × Str)} (h : (fs.map (·.1)).Nodup) {p : Nat × Str} (hp : p ∈ fs) : lookup fs p.1 = some p.2 := by
  unfold lookup
  induction fs with
  | nil => cases hp
  | cons q r ih =>
    rw [List.map_cons, List.nodup_cons] at h
    rw [List.find?_cons]
    rcases List.mem_cons.mp hp with rfl | hp'
    · simp
    · have hne : q.1 ≠ p.1 := fun e => h.1 (e ▸ List.mem_map_of_mem hp')
      have e : (q.1 == p.1) = false := by simpa using hne
      rw [e]
      exact ih h.2 hp'
theorem Match.mem {fs : List (Nat × Str)} {x : List Nat} (M : Match fs x) {p : Nat × Str} (hp : p ∈ fs) : at6 x p.1 ≠ 0 ∧ p.2 = spelledOf (at6 x p.1 - 1) (p.1 : Nat) := by
  have h1 := lookup_of_mem M.nodup hp
  have h2 := M.look p.1 (by have := M.le p hp; omega)
  rw [h1] at h2
  by_cases h0 : at6 x p.1 = 0
  · rw [if_pos h0] at h2; cases h2
  · rw [if_neg h0] at h2
    exact ⟨h0, Option.some.inj h2⟩
theorem nodup_bound : ∀ (n : Nat) (l : List Nat), l.Nodup → (∀ k ∈ l, k < n) → l.length ≤ n
  | 0, l, _, h => by
    cases l with
    | nil => exact Nat.le_refl 0
    | cons a r => exact absurd (h a (.head _)) (Nat.not_lt_zero _)
  | n + 1, l, hn, h => by
    by_cases hm : n ∈ l
    · have ih := nodup_bound n (l.erase n) (hn.erase n) fun k hk => by
        have h1 := (hn.mem_erase_iff).mp hk
        have h2 := h k h1.2
        have := h1.1
        omega
      rw [List.length_erase_of_mem hm] at ih
      omega
    · have ih := nodup_bound n l hn fun k hk => by
        have h2 := h k hk
        have : k ≠ n := fun e => hm (e ▸ hk)
        omega
      omega
theorem Match.length {fs : List (Nat × Str)} {x : List Nat} (M : Match fs x) : fs.length ≤ 6 := by
  have := nodup_bound 6 _ M.nodup fun k hk => by
    obtain ⟨p, hp, rfl⟩ := List.mem_map.mp hk
    have := M.le p hp
    omega
  simpa using this

-- NEEDS: p00_head p01_search p02_ledger p02d_setall p03_tells p05_get p09_spelled p18_text p19d_strip p19g_leaves p19f_words p19h_parts p19l_cfg p19m_spell p19n_match p19o_turn p19p_fill
theorem rising_pairwise : ∀ (l : List Str) (p : Str), risingS p l = true → (p :: l).Pairwise fun u v => ¬ sig v < sig u
  | [], p, _ => by simp
  | x :: r, p, h => by
    unfold risingS at h
    rw [Bool.and_eq_true] at h
    obtain ⟨h1, h2⟩ := h
    have ih := rising_pairwise r x h2
    have h3 : ¬ sig x < sig p := by
      rw [ltCps_eq] at h1
      simpa [sig] using h1
    rw [List.pairwise_cons]
    refine ⟨fun v hv => ?_, ih⟩
    rcases List.mem_cons.mp hv with rfl | hv
    · exact h3
    · have h4 := (List.pairwise_cons.mp ih).1 v hv
      intro h5
      exact h4 (Std.lt_of_lt_of_le h5 (Std.not_lt.mp h3))
theorem sorted_pairwise {l : List Str} (h : sortedS l = true) : l.Pairwise fun u v => ¬ sig v < sig u := by
  cases l with
  | nil => exact .nil
  | cons p r => exact rising_pairwise r p h
theorem sorted_perm : ∀ {ss T : List Str}, T.Pairwise (fun u v => sig u < sig v) → ss.Perm T → ss.Pairwise (fun u v => ¬ sig v < sig u) → ss = T
  | [], T, _, hp, _ => by
    have := hp.length_eq
    cases T with
    | nil => rfl
    | cons _ _ => simp at this
  | a :: s, [], _, hp, _ => by have := hp.length_eq; simp at this
  | a :: s, b :: t, hT, hp, hs => by
    have e : a = b := by
      rcases List.mem_cons.mp (hp.mem_iff.mp (.head _)) with h | h
      · exact h
      · rcases List.mem_cons.mp (hp.mem_iff.mpr (.head _)) with h' | h'
        · exact h'.symm
        · exact absurd ((List.pairwise_cons.mp hT).1 a h) ((List.pairwise_cons.mp hs).1 b h')
    subst e
    rw [sorted_perm (List.pairwise_cons.mp hT).2 hp.cons_inv (List.pairwise_cons.mp hs).2]
theorem sorted_is {ss T : List Str} (hT : T.Pairwise (fun u v => sig u < sig v)) (hp : ss.Perm T) (hs : sortedS ss = true) : ss = T := sorted_perm hT hp (sorted_pairwise hs)

-- NEEDS: p00_head p01_search p02_ledger p02d_setall p03_tells p05_get p06_name p07_first p08_taken p09_spelled p11_all p15a_free p17_ellipsis p18_text p19d_strip p19e_check p19g_leaves p19f_words p19h_parts p19i_unquote p19j_opens p19k_plain p19l_cfg p19m_spell p19n_match p19o_turn p19p_fill p19q_mem p19r_sort
/-- what the law holds between two askings -/
structure LSt where
  used : Nat
  words : List Str
  cells : List Int
  fs : List (Nat × Str)
  gv : List (Str × Str)
noncomputable def ofn : Str := Str.ofString "of-"
/-- the configuration x and the leaves T behind the law's state -/
structure LInvX (σ : LSt) (x : List Nat) (T : List (List Nat)) : Prop where
  inx : In x
  used : σ.used = usedC x
  cells : σ.cells = cellsC x
  m : Match σ.fs x
  leaves : Leaves T
  perm : T.Perm (σ.words.map sig ++ σ.fs.map fun p => sig p.2)
  cas : (σ.words = [] ∧ x = cfg0 ∧ σ.fs = [(0, Str.ofString "")]) ∨ (σ.words ≠ [] ∧ 0 < σ.used ∧ ∀ p ∈ σ.fs, ∃ u, p.2 = u ++ Str.ofString ")")
  words : ∀ w ∈ σ.words, ∃ s a, 1 ≤ s ∧ s ≤ 5 ∧ a < 32 ∧ a % (32 / 2 ^ s) = 0 ∧ w = spelledOf a (s : Nat) ∧ ∀ b, startC x s = some b → a < b
  rise : σ.words.Pairwise fun u v => u.length = v.length → sig u < sig v
  gv : σ.gv.map (fun kv => (Txt.lower kv.1, kv.2)) = σ.words.map fun w => (Txt.lower (nameOf ofn (w.length : Nat) 0), w)
  gvl : ∀ kv ∈ σ.gv, kv.1.length ≤ 100
noncomputable def LInv (σ : LSt) : Prop := ∃ x T, LInvX σ x T
noncomputable def st0 : LSt := ⟨0, [], List.replicate 32 0, [(0, Str.ofString "")], []⟩
noncomputable def partOfSize (k : Nat) : Nat := 256 / 2 ^ k
noncomputable def LSt.next (σ : LSt) (k a : Nat) (odd : Int) (q : Str × List (Nat × Str)) : LSt := ⟨σ.used + partOfSize k, σ.words ++ [q.1], takenOf σ.cells a k, q.2, σ.gv ++ [(nameOf ofn (k : Nat) odd, q.1)]⟩
noncomputable def sizesOf (used : Nat) : List Nat := (List.range 6).filter fun k => (256 - used) / 2 ^ (8 - k) % 2 = 1
/-- a word of round brackets, no longer than five -/
noncomputable def WordOk (w : Str) : Prop := w.length ≤ 5 ∧ ∀ c ∈ w.cps, c = 40 ∨ c = 41
structure LBounds (σ : LSt) : Prop where
  used : σ.used ≤ 256
  cells : σ.cells.length = 32
  free : σ.fs.length ≤ 6
  freeOk : ∀ p ∈ σ.fs, WordOk p.2 ∧ p.1 ≤ 5
  none : σ.words = [] ↔ σ.used = 0
  wordOk : ∀ w ∈ σ.words, WordOk w ∧ 1 ≤ w.length
  gvl : σ.gv.length = σ.words.length
  gvs : ∀ kv ∈ σ.gv, kv.1.length ≤ 100 ∧ kv.2.length ≤ 5
theorem linv_init : LInv st0 := by
  refine ⟨cfg0, [[]], ⟨in_cfg0, by rw [used_cfg0]; rfl, by rw [cells_cfg0]; rfl, match_cfg0, .root, ?_, .inl ⟨rfl, rfl, rfl⟩, (fun w h => nomatch h), List.Pairwise.nil, rfl, (fun kv h => nomatch h)⟩⟩
  show List.Perm [[]] ([] ++ [sig (Str.ofString "")])
  rw [show sig (Str.ofString "") = [] by decide +kernel]
  exact List.Perm.refl _
theorem word_spelled {s a : Nat} (hs : s ≤ 5) (ha : a < 32) : WordOk (spelledOf a (s : Nat)) ∧ (spelledOf a (s : Nat)).length = s := by
  obtain ⟨h1, h2⟩ := spell_ok s (by omega) a ha
  refine ⟨⟨by show (spelledOf a (s : Nat)).cps.size ≤ 5; omega, fun c hc => ?_⟩, h1⟩
  have := Array.all_eq_true'.mp h2 c hc
  simpa using this
theorem linv_bounds {σ : LSt} (h : LInv σ) : LBounds σ := by
  obtain ⟨x, T, H⟩ := h
  have hf := H.inx.facts
  have hw : ∀ w ∈ σ.words, WordOk w ∧ 1 ≤ w.length := by
    intro w hw
    obtain ⟨s, a, h1, h5, ha, _, rfl, _⟩ := H.words w hw
    have := word_spelled h5 ha
    exact ⟨this.1, by rw [this.2]; exact h1⟩
  refine ⟨by rw [H.used]; exact hf.1, by rw [H.cells]; unfold cellsC; rw [List.length_map, List.length_range], H.m.length, ?_, ?_, hw, ?_, ?_⟩
  · intro p hp
    obtain ⟨h0, e⟩ := H.m.mem hp
    have hle := H.m.le p hp
    refine ⟨?_, hle⟩
    rw [e]
    exact (word_spelled hle ((hf.2.1 p.1 (by omega)).2 h0).2).1
  · rcases H.cas with ⟨h1, h2, _⟩ | ⟨h1, h2, _⟩
    · refine ⟨fun _ => ?_, fun _ => h1⟩
      rw [H.used, h2, used_cfg0]
    · exact ⟨fun e => absurd e h1, fun e => by omega⟩
  · have := congrArg List.length H.gv
    simpa using this
  · intro kv hkv
    refine ⟨H.gvl kv hkv, ?_⟩
    have hm : (Txt.lower kv.1, kv.2) ∈ σ.words.map fun w => (Txt.lower (nameOf ofn (w.length : Nat) 0), w) := by
      rw [← H.gv]
      exact List.mem_map_of_mem (f := fun kv : Str × Str => (Txt.lower kv.1, kv.2)) hkv
    obtain ⟨w, hw', e⟩ := List.mem_map.mp hm
    have e2 : w = kv.2 := congrArg Prod.snd e
    rw [← e2]
    exact (hw w hw').1.1
theorem freeName_rise : ∀ j < 6, ∀ k < j, sig (freeName k) < sig (freeName j) := by decide +kernel
theorem sizes_rise (u : Nat) : ((sizesOf u).map freeName).Pairwise fun a b => sig a < sig b := by
  rw [List.pairwise_map]
  unfold sizesOf
  refine List.Pairwise.imp_of_mem ?_ (List.Pairwise.filter _ List.pairwise_lt_range)
  intro a b ha hb hab
  have hb' := List.mem_range.mp (List.mem_filter.mp hb).1
  exact freeName_rise b hb' a hab
theorem sizes_perm {fs : List (Nat × Str)} {x : List Nat} (M : Match fs x) (hx : In x) : (fs.map (·.1)).Perm (sizesOf (usedC x)) := by
  rw [List.perm_ext_iff_of_nodup M.nodup (by unfold sizesOf; exact List.nodup_range.sublist List.filter_sublist)]
  intro k
  have hf := hx.facts
  constructor
  · intro hk
    obtain ⟨p, hp, rfl⟩ := List.mem_map.mp hk
    have h0 := (M.mem hp).1
    have hle := M.le p hp
    unfold sizesOf
    exact List.mem_filter.mpr ⟨List.mem_range.mpr (by omega), by simpa using (hf.2.1 p.1 (by omega)).1.mpr h0⟩
  · intro hk
    unfold sizesOf at hk
    obtain ⟨h1, h2⟩ := List.mem_filter.mp hk
    have h1' := List.mem_range.mp h1
    have h0 := (hf.2.1 k h1').1.mp (by simpa using h2)
    have hl := M.look k h1'
    rw [if_neg h0] at hl
    unfold lookup at hl
    obtain ⟨p, hp, _⟩ := Option.map_eq_some_iff.mp hl
    have := List.find?_some hp
    exact List.mem_map.mpr ⟨p, List.mem_of_find?_eq_some hp, by simpa using this⟩
theorem linv_sizes {σ : LSt} (h : LInv σ) {ss : List Str} (hp : ss.Perm (σ.fs.map fun p => freeName p.1)) (hs : sortedS ss = true) : ss = (sizesOf σ.used).map freeName := by
  obtain ⟨x, T, H⟩ := h
  refine sorted_is (sizes_rise _) (hp.trans ?_) hs
  rw [H.used]
  have := (sizes_perm H.m H.inx).map freeName
  rwa [List.map_map] at this
theorem linv_eof {σ : LSt} (h : LInv σ) : sizesOf σ.used = [] ↔ σ.used = 256 := by
  obtain ⟨x, T, H⟩ := h
  have hf := H.inx.facts
  rw [H.used]
  constructor
  · intro e
    unfold sizesOf at e
    rw [List.filter_eq_nil_iff] at e
    have h0 : ∀ k < 6, at6 x k = 0 := by
      intro k hk
      have e1 := e k (List.mem_range.mpr hk)
      rcases Nat.eq_zero_or_pos (at6 x k) with h | h
      · exact h
      · exact absurd (by simpa using ((hf.2.1 k hk).1.mpr (by omega))) e1
    unfold usedC
    have : ((List.range 6).map fun k => if at6 x k = 0 then 0 else 256 / 2 ^ k) = [0, 0, 0, 0, 0, 0] := by
      show [_, _, _, _, _, _] = _
      dsimp only
      rw [h0 0 (by decide), h0 1 (by decide), h0 2 (by decide), h0 3 (by decide), h0 4 (by decide), h0 5 (by decide)]
      rfl
    rw [this]
    rfl
  · intro e
    unfold sizesOf
    rw [e, List.filter_eq_nil_iff]
    intro k _
    simp
theorem of_lower : ∀ k < 6, ∀ j < 6, (Txt.lower (nameOf ofn (k : Nat) 0) = Txt.lower (nameOf ofn (j : Nat) 0) → k = j) ∧ Txt.lower (nameOf ofn (k : Nat) 1) = Txt.lower (nameOf ofn (k : Nat) 0) := by decide +kernel
theorem of_lower_odd {k : Nat} (hk : k < 6) {o : Int} (ho : o = 0 ∨ o = 1) : Txt.lower (nameOf ofn (k : Nat) o) = Txt.lower (nameOf ofn (k : Nat) 0) := by
  rcases ho with rfl | rfl
  · rfl
  · exact (of_lower k hk k hk).2
theorem lookup_perm {fs : List (Nat × Str)} {h : Nat} {w : Str} (hn : (fs.map (·.1)).Nodup) (hl : lookup fs h = some w) : fs.Perm ((h, w) :: dropK fs h) := by
  induction fs with
  | nil => unfold lookup at hl; cases hl
  | cons p r ih =>
    rw [List.map_cons, List.nodup_cons] at hn
    by_cases hp : p.1 = h
    · have e : lookup (p :: r) h = some p.2 := by
        unfold lookup
        rw [List.find?_cons, show (p.1 == h) = true by simpa using hp]; rfl
      rw [e] at hl
      obtain rfl := Option.some.inj hl
      have hd : dropK (p :: r) h = r := by
        unfold dropK
        rw [List.filter_cons, if_neg (by simpa using hp), List.filter_eq_self]
        intro q hq
        have : q.1 ≠ h := fun e' => hn.1 (by rw [hp, ← e']; exact List.mem_map_of_mem hq)
        simpa using this
      rw [hd, ← hp]
    · have e : lookup (p :: r) h = lookup r h := by
        unfold lookup
        rw [List.find?_cons, show (p.1 == h) = false by simpa using hp]
      rw [e] at hl
      have hd : dropK (p :: r) h = p :: dropK r h := by
        unfold dropK
        rw [List.filter_cons, if_pos (by simpa using hp)]
      rw [hd]
      exact ((ih hn.2 hl).cons p).trans (List.Perm.swap _ _ _)
theorem wide_nat (k : Nat) : wideOf (k : Nat) = 32 / 2 ^ k := rfl
theorem aligned_down {a h k : Nat} (hk : h ≤ k) (h5 : k ≤ 5) (ha : a % (32 / 2 ^ h) = 0) : a % (32 / 2 ^ k) = 0 := by
  have e : 32 / 2 ^ h = 32 / 2 ^ k * 2 ^ (k - h) := by
    have : ∀ k < 6, ∀ h < k + 1, 32 / 2 ^ h = 32 / 2 ^ k * 2 ^ (k - h) := by decide +kernel
    exact this k (by omega) h (by omega)
  rw [e] at ha
  exact Nat.mod_eq_zero_of_dvd (Nat.dvd_trans (Nat.dvd_mul_right _ _) (Nat.dvd_of_mod_eq_zero ha))
theorem spelled_lt {k a b : Nat} (h5 : k ≤ 5) (ha : a % (32 / 2 ^ k) = 0) (hb : b % (32 / 2 ^ k) = 0) (hab : a < b) (hb32 : b < 32) : sig (spelledOf a (k : Nat)) < sig (spelledOf b (k : Nat)) := by
  obtain ⟨i, rfl⟩ := Nat.dvd_of_mod_eq_zero ha
  obtain ⟨j, rfl⟩ := Nat.dvd_of_mod_eq_zero hb
  have hpos : 32 / 2 ^ k * 2 ^ k = 32 ∧ 0 < 32 / 2 ^ k := by
    have : ∀ k < 6, 32 / 2 ^ k * 2 ^ k = 32 ∧ 0 < 32 / 2 ^ k := by decide +kernel
    exact this k (by omega)
  have hij : i < j := Nat.lt_of_mul_lt_mul_left hab
  have hj : j < 2 ^ k := by
    exact Nat.lt_of_mul_lt_mul_left (Nat.lt_of_lt_of_eq hb32 hpos.1.symm)
  have := spell_rise k (by omega) j hj i hij
  rw [Nat.mul_comm _ i, Nat.mul_comm _ j]
  exact this
theorem ofn_len : ∀ k < 6, (nameOf ofn (k : Nat) 0).length ≤ 100 ∧ (nameOf ofn (k : Nat) 1).length ≤ 100 := by decide +kernel
theorem part_pos {k : Nat} (h5 : k ≤ 5) : 0 < 256 / 2 ^ k := by
  have : ∀ k < 6, 0 < 256 / 2 ^ k := by decide +kernel
  exact this k (by omega)
theorem cas_drop {σ : LSt} {x : List Nat} {T : List (List Nat)} (H : LInvX σ x T) {h : Nat} {w : Str} (hl : lookup σ.fs h = some w) : ∀ p ∈ dropK σ.fs h, ∃ u, p.2 = u ++ Str.ofString ")" := by
  rcases H.cas with ⟨_, _, h3⟩ | ⟨_, _, h3⟩
  · have hp := lookup_perm H.m.nodup hl
    rw [h3] at hp ⊢
    intro p hp'
    have := hp.length_eq
    cases e : dropK [(0, Str.ofString "")] h with
    | nil => rw [e] at hp'; cases hp'
    | cons a r => rw [e] at this; simp at this
  · intro p hp
    exact h3 p (List.mem_filter.mp hp).1
theorem linv_step {σ : LSt} (h : LInv σ) {k : Nat} (h1 : 1 ≤ k) (h5 : k ≤ 5) (odd : Int) (ho : odd = 0 ∨ odd = 1) : match firstOf σ.cells k, servedOf σ.fs k with
    | some a, some q => a + wideOf k ≤ 32 ∧ σ.used + partOfSize k ≤ 256 ∧ q.1 = spelledOf a k ∧ LInv (σ.next k a odd q)
    | none, none => 256 < σ.used + partOfSize k
    | _, _ => False := by
  obtain ⟨x, T, H⟩ := h
  have hf := H.inx.facts
  have tn := H.inx.turn h1 h5
  have sv := served_match H.m h5 fun k hk h0 => (hf.2.1 k hk).2 h0
  rw [H.cells, H.used]
  cases e : haveC x (k + 1) with
  | none =>
    rw [e] at tn sv
    dsimp only at tn sv
    rw [tn.1, sv]
    exact tn.2
  | some g =>
    rw [e] at tn sv
    dsimp only at tn sv
    obtain ⟨t1, t2, t3, t4, t5, t6, t7⟩ := tn
    obtain ⟨fs', s1, s2⟩ := sv
    obtain ⟨g1, g2⟩ := haveC_some e
    have al := (hf.2.1 g (by omega)).2 g2
    have ak : (at6 x g - 1) % (32 / 2 ^ k) = 0 := aligned_down (by omega) h5 al.1
    have hst : startC x k = some (at6 x g - 1) := by unfold startC; rw [e]; rfl
    have hlen := (word_spelled h5 al.2).2
    rw [t1, s1]
    dsimp only
    refine ⟨t2, t3, rfl, nextC x k g, ?_⟩
    have hl : lookup σ.fs g = some (spelledOf (at6 x g - 1) (g : Nat)) := by rw [H.m.look g (by omega), if_neg g2]
    have hq : fillUp (k - g) g (dropK σ.fs g) (spelledOf (at6 x g - 1) (g : Nat)) = (spelledOf (at6 x g - 1) (k : Nat), fs') := by
      unfold servedOf at s1
      rw [have_match H.m (k + 1) (by omega), e] at s1
      dsimp only at s1
      rw [hl] at s1
      exact Option.some.inj s1
    obtain ⟨T', hT', hp'⟩ := fill_leaves (k - g) g (dropK σ.fs g) (spelledOf (at6 x g - 1) (g : Nat)) (σ.words.map sig) T (by
      intro j j1 j2
      rw [lookup_drop, if_neg (by omega), H.m.look j (by omega), if_pos (haveC_above e j j1 (by omega))]) H.leaves (by
      refine H.perm.trans ?_
      refine (List.Perm.append_left _ ((lookup_perm H.m.nodup hl).map fun p => sig p.2)).trans ?_
      rw [List.map_cons]
      exact List.perm_middle)
    have hcl := fill_close (k - g) g (dropK σ.fs g) (spelledOf (at6 x g - 1) (g : Nat)) (cas_drop H hl)
    rw [hq] at hp' hcl
    dsimp only at hp' hcl
    refine ⟨T', ?_⟩
    unfold LSt.next partOfSize
    exact {
      inx := t6
      used := by dsimp only; rw [t5, H.used]
      cells := by dsimp only; rw [H.cells, t4]
      m := s2
      leaves := hT'
      perm := by
        dsimp only
        refine hp'.trans ?_
        rw [List.map_append, List.append_assoc]
        exact List.perm_middle.symm
      cas := .inr ⟨by simp, by have := part_pos h5; dsimp only; omega, hcl⟩
      words := by
        dsimp only
        intro w hw
        rcases List.mem_append.mp hw with hw | hw
        · obtain ⟨s, a, a1, a2, a3, a4, a5, a6⟩ := H.words w hw
          refine ⟨s, a, a1, a2, a3, a4, a5, fun b' hb' => ?_⟩
          obtain ⟨b, b1, b2, _⟩ := t7 s (by simp; omega) b' hb'
          exact Nat.lt_of_lt_of_le (a6 b b1) b2
        · rw [List.mem_singleton] at hw
          refine ⟨k, at6 x g - 1, h1, h5, al.2, ak, hw, fun b' hb' => ?_⟩
          obtain ⟨b, b1, b2, b3⟩ := t7 k (by simp; omega) b' hb'
          rw [hst] at b1
          obtain rfl := Option.some.inj b1
          exact b3 rfl
      rise := by
        dsimp only
        rw [List.pairwise_append]
        refine ⟨H.rise, List.pairwise_singleton _ _, ?_⟩
        intro u hu v hv huv
        rw [List.mem_singleton] at hv
        subst hv
        obtain ⟨s, a, a1, a2, a3, a4, rfl, a6⟩ := H.words u hu
        have hsl := (word_spelled a2 a3).2
        have hsk : s = k := by omega
        subst hsk
        exact spelled_lt h5 a4 ak (a6 _ hst) al.2
      gv := by
        dsimp only
        rw [List.map_append, List.map_append, H.gv, List.map_singleton, List.map_singleton, of_lower_odd (by omega) ho, hlen]
      gvl := by
        dsimp only
        intro kv hkv
        rcases List.mem_append.mp hkv with hkv | hkv
        · exact H.gvl kv hkv
        · rw [List.mem_singleton.mp hkv]
          have := ofn_len k (by omega)
          rcases ho with rfl | rfl
          · exact this.1
          · exact this.2 }
theorem allOf_map (gv : List (Str × Str)) (q : Str) : allOf gv q = ((gv.map fun kv => (Txt.lower kv.1, kv.2)).filter fun kv => kv.1 == q).map (·.2) := by
  unfold allOf
  rw [List.filter_map, List.map_map]
  rfl
theorem linv_given {σ : LSt} (h : LInv σ) {k : Nat} (h1 : 1 ≤ k) (h5 : k ≤ 5) {ss : List Str} (hp : ss.Perm (σ.words.filter fun w => w.length = k)) (hs : sortedS ss = true) : allOf σ.gv (Txt.lower (nameOf ofn (k : Nat) ((k % 2 : Nat)))) = ss := by
  have hB := linv_bounds h
  obtain ⟨x, T, H⟩ := h
  rw [of_lower_odd (by omega) (by omega), allOf_map, H.gv, List.filter_map, List.map_map]
  have e : (σ.words.filter ((fun kv : Str × Str => kv.1 == Txt.lower (nameOf ofn (k : Nat) 0)) ∘ fun w => (Txt.lower (nameOf ofn (w.length : Nat) 0), w))) = σ.words.filter fun w => w.length = k := by
    refine List.filter_congr fun w hw => ?_
    show (Txt.lower (nameOf ofn (w.length : Nat) 0) == Txt.lower (nameOf ofn (k : Nat) 0)) = decide (w.length = k)
    have hl := (hB.wordOk w hw).1.1
    rw [Bool.eq_iff_iff, beq_iff_eq, decide_eq_true_iff]
    exact ⟨fun e => (of_lower _ (by omega) _ (by omega)).1 e, fun e => by rw [e]⟩
  rw [e]
  have e2 : ((fun kv : Str × Str => kv.2) ∘ fun w : Str => (Txt.lower (nameOf ofn (w.length : Nat) 0), w)) = id := rfl
  rw [e2, List.map_id]
  symm
  refine sorted_is ?_ hp hs
  refine List.Pairwise.imp_of_mem ?_ (List.Pairwise.filter _ H.rise)
  intro u v hu hv huv
  have eu : u.length = k := by simpa using (List.mem_filter.mp hu).2
  have ev : v.length = k := by simpa using (List.mem_filter.mp hv).2
  exact huv (eu.trans ev.symm)
theorem pairwise_mem {R : List Nat → List Nat → Prop} : ∀ {T : List (List Nat)}, T.Pairwise R → ∀ {u v : List Nat}, u ∈ T → v ∈ T → u ≠ v → R u v ∨ R v u
  | [], _, _, _, h, _, _ => nomatch h
  | a :: r, hp, u, v, hu, hv, hne => by
    obtain ⟨h1, h2⟩ := List.pairwise_cons.mp hp
    rcases List.mem_cons.mp hu with rfl | hu'
    · rcases List.mem_cons.mp hv with rfl | hv'
      · exact absurd rfl hne
      · exact .inl (h1 v hv')
    · rcases List.mem_cons.mp hv with rfl | hv'
      · exact .inr (h1 u hu')
      · exact pairwise_mem h2 hu' hv' hne
theorem starts_iff (x y : Str) : Txt.startswith x y = true ↔ sig y <+: sig x := by
  unfold Txt.startswith
  rw [Bool.and_eq_true, decide_eq_true_eq]
  have e : (Builtin.Str.subAt x y 0 = true) ↔ (sig x).take y.length = sig y := by
    unfold Builtin.Str.subAt sig
    rw [beq_iff_eq, ← Array.toList_inj, Array.toList_extract]
    simp [List.extract_eq_take_drop]
  rw [e, List.prefix_iff_eq_take]
  have hl : (sig y).length = y.length := by simp [sig, Str.length]
  have hx : (sig x).length = x.length := by simp [sig, Str.length]
  rw [hl]
  constructor
  · intro h; exact h.2.symm
  · intro h
    refine ⟨?_, h.symm⟩
    have := congrArg List.length h
    rw [List.length_take, hl, hx] at this
    omega
theorem linv_read {σ : LSt} (h : LInv σ) {l₁ l₂ : List Str} {w one : Str} (e : σ.words = l₁ ++ w :: l₂) (ho : one ∈ σ.words) : Txt.startswith (Txt.join (Str.ofString "") (w :: l₂)) one = decide (one = w) := by
  obtain ⟨x, T, H⟩ := h
  have hj : sig (Txt.join (Str.ofString "") (w :: l₂)) = sig w ++ (l₂.map fun p => p.cps.toList).flatten := by
    unfold sig
    rw [join_list, List.map_cons, List.flatten_cons]
  rw [Bool.eq_iff_iff, starts_iff, decide_eq_true_eq, hj]
  constructor
  · intro hpre
    by_cases hne : one = w
    · exact hne
    · have hs : sig one ≠ sig w := fun he => hne (str_ext he)
      have m1 : sig one ∈ T := H.perm.mem_iff.mpr (List.mem_append_left _ (List.mem_map_of_mem ho))
      have m2 : sig w ∈ T := H.perm.mem_iff.mpr (List.mem_append_left _ (List.mem_map_of_mem (by rw [e]; exact List.mem_append_right _ (.head _))))
      have hcmp := List.prefix_or_prefix_of_prefix hpre (List.prefix_append (sig w) _)
      rcases pairwise_mem H.leaves.sep m1 m2 hs with hsep | hsep
      · rcases hcmp with h' | h'
        · exact absurd h' hsep.no_prefix.1
        · exact absurd h' hsep.no_prefix.2
      · rcases hcmp with h' | h'
        · exact absurd h' hsep.no_prefix.2
        · exact absurd h' hsep.no_prefix.1
  · intro he
    rw [he]
    exact List.prefix_append _ _
theorem perm_sum {l l' : List Int} (h : l.Perm l') : l.sum = l'.sum := by
  induction h with
  | nil => rfl
  | cons a _ ih => rw [List.sum_cons, List.sum_cons, ih]
  | swap a b l => simp only [List.sum_cons]; omega
  | trans _ _ ih1 ih2 => rw [ih1, ih2]
noncomputable def mkS (l : List Nat) : Str := ⟨l.toArray⟩
theorem sig_mkS (l : List Nat) : sig (mkS l) = l := by unfold sig mkS; simp
theorem mkS_sig (x : Str) : mkS (sig x) = x := str_ext (sig_mkS _)
theorem leaves_sorted {T : List (List Nat)} (hl : Leaves T) {ws ss : List Str} (hp : T.Perm (ws.map sig)) (hs : ss.Perm ws) (hso : sortedS ss = true) : ss.map sig = T := by
  have h1 : (T.map mkS).Pairwise fun u v => sig u < sig v := by
    rw [List.pairwise_map]
    exact hl.sep.imp fun h => by rw [sig_mkS, sig_mkS]; exact h.lt
  have h2 : ss.Perm (T.map mkS) := by
    refine hs.trans ?_
    have := hp.map mkS
    rw [List.map_map] at this
    have e : (mkS ∘ sig) = id := funext mkS_sig
    rw [e, List.map_id] at this
    exact this.symm
  have h3 := sorted_is h1 h2 hso
  rw [h3, List.map_map]
  have e : (sig ∘ mkS) = id := funext sig_mkS
  rw [e, List.map_id]
theorem words_sig {σ : LSt} (h : LInv σ) : ∀ w ∈ σ.words, ∀ c ∈ w.cps, c = 40 ∨ c = 41 := fun w hw => ((linv_bounds h).wordOk w hw).1.2
theorem linv_check_all {σ : LSt} (h : LInv σ) (hne : σ.words ≠ []) {ss : List Str} (hp : ss.Perm (σ.words ++ σ.fs.map (·.2))) (hs : sortedS ss = true) {y : Str} (hy : ((Builtin.Str.occurrences (textOf ss) (Str.ofString "\"") 0 (textOf ss).length 1).isEmpty = true ∧ y = textOf ss) ∨ y = stripped (textOf ss)) : checkOf y = true := by
  have hw := words_sig h
  have hB := linv_bounds h
  obtain ⟨x, T, H⟩ := h
  have hperm : T.Perm ((σ.words ++ σ.fs.map (·.2)).map sig) := by
    have := H.perm
    rw [List.map_append, List.map_map]
    exact this
  have e := leaves_sorted H.leaves hperm hp hs
  have hss : ss ≠ [] := by
    intro e0
    subst e0
    have := hp.length_eq
    rw [List.length_append] at this
    exact hne (List.length_eq_zero_iff.mp (by simp at this; omega))
  have hc := check_text hss (fun w hw' c hc => by
    rcases List.mem_append.mp (hp.mem_iff.mp hw') with h1 | h1
    · exact hw w h1 c hc
    · obtain ⟨p, hp', rfl⟩ := List.mem_map.mp h1
      exact (hB.freeOk p hp').1.2 c hc) hy
  have e' : ss.map (fun p => p.cps.toList) = T := e
  rw [e'] at hc
  exact hc.1 H.leaves.run.1 H.leaves.run.2
theorem linv_check {σ : LSt} (h : LInv σ) (hne : σ.words ≠ []) {ss : List Str} (hp : ss.Perm σ.words) (hs : sortedS ss = true) {y : Str} (hy : ((Builtin.Str.occurrences (textOf ss) (Str.ofString "\"") 0 (textOf ss).length 1).isEmpty = true ∧ y = textOf ss) ∨ y = stripped (textOf ss)) : checkOf y = decide (σ.used = 256) := by
  by_cases hu : σ.used = 256
  · rw [decide_eq_true hu]
    have hf : σ.fs = [] := by
      have hz := (linv_eof h).mpr hu
      obtain ⟨x, T, H⟩ := h
      have hq := sizes_perm H.m H.inx
      rw [← H.used, hz] at hq
      have := hq.length_eq
      rw [List.length_map] at this
      exact List.length_eq_zero_iff.mp this
    refine linv_check_all h hne (ss := ss) ?_ hs hy
    rw [hf, List.map_nil, List.append_nil]
    exact hp
  · rw [decide_eq_false hu]
    have hw := words_sig h
    have hz : sizesOf σ.used ≠ [] := fun e => hu ((linv_eof h).mp e)
    obtain ⟨x, T, H⟩ := h
    have hfne : σ.fs ≠ [] := by
      intro e0
      have hq := sizes_perm H.m H.inx
      rw [e0, ← H.used] at hq
      exact hz (List.length_eq_zero_iff.mp hq.length_eq.symm)
    have hcl : ∀ p ∈ σ.fs, ∃ u, p.2 = u ++ Str.ofString ")" := by
      rcases H.cas with ⟨h1, _⟩ | ⟨_, _, h3⟩
      · exact absurd h1 hne
      · exact h3
    have hss : ss ≠ [] := by
      intro e0
      subst e0
      exact hne (List.length_eq_zero_iff.mp hp.length_eq.symm)
    have hc := check_text hss (fun w hw' c hc => hw w (hp.mem_iff.mp hw') c hc) hy
    refine hc.2 ?_
    have hsum : ((ss.map fun p => p.cps.toList).map tr).sum = ((σ.words.map sig).map tr).sum := perm_sum ((hp.map sig).map tr)
    rw [hsum]
    have htot := H.leaves.run.2
    rw [perm_sum (H.perm.map tr), List.map_append, List.sum_append] at htot
    have hneg : ∀ l : List (Nat × Str), (∀ p ∈ l, ∃ u, p.2 = u ++ Str.ofString ")") → ((l.map fun p => sig p.2).map tr).sum ≤ 0 ∧ (l ≠ [] → ((l.map fun p => sig p.2).map tr).sum < 0) := by
      intro l
      induction l with
      | nil => intro _; exact ⟨Int.le_refl 0, fun h => absurd rfl h⟩
      | cons p r ih =>
        intro hl
        have ih' := (ih fun q hq => hl q (.tail _ hq)).1
        obtain ⟨u, hu⟩ := hl p (.head _)
        have ht : tr (sig p.2) < 0 := by
          rw [hu, close_sig, tr_close]; omega
        simp only [List.map_cons, List.sum_cons]
        exact ⟨by omega, fun _ => by omega⟩
    have := (hneg σ.fs hcl).2 hfne
    omega
/-- what the text's walk asks of the words -/
theorem text_plain {ss : List Str} (h : ∀ w ∈ ss, WordOk w) (hl : ss.length ≤ 20) : (∀ c ∈ (textOf ss).cps, c < 128 ∧ c ≠ 92) ∧ ((textOf ss).cps.all (· < 128) = true) ∧ (textOf ss).length ≤ 1000 ∧ (∀ c ∈ (stripped (textOf ss)).cps, c < 128 ∧ c ≠ 92) ∧ ((stripped (textOf ss)).cps.all (· < 128) = true) ∧ (stripped (textOf ss)).cps.size ≤ 1000000 := text_plain0 h hl

-- NEEDS: p00_head p01_search p02_ledger p02b_loops p02c_comps p02d_setall p03_tells p05_get p06_name p07_first p08_taken p09_spelled p11_all p15a_free p16_asked p17_ellipsis p18_text p19d_strip p19e_check p20_plain
/-- no cell of a def -/
noncomputable def NC (o : Obj) : Prop := ∀ v, o.data ≠ .cell v
/-- the law's addresses -/
structure LAt where
  xf : Addr
  dxf : Addr
  lf : Addr
  xg : Addr
  dxg : Addr
  lg : Addr
  lw : Addr
/-- the law's data in the ledger -/
structure LD (P : Params) (n : Ledger) (A : LAt) (lc : Addr) (σ : LSt) : Prop where
  f : ∃ as k kvs, Hdr P n A.xf A.dxf A.lf as k kvs ∧ FreeIs kvs σ.fs
  g : ∃ as k, Hdr P n A.xg A.dxg A.lg as k σ.gv
  ws : ∃ vs k, (A.lw, listOf vs.toArray k) ∈ n ∧ StrsAre vs σ.words
  cs : ∃ vs k, (lc, listOf vs.toArray k) ∈ n ∧ IntsAre vs σ.cells
  n1 : A.lf ≠ A.lg
  n2 : A.lf ≠ A.lw
  n3 : A.lg ≠ A.lw
  n4 : lc ≠ A.lf
  n5 : lc ≠ A.lg
  n6 : lc ≠ A.lw
/-- an iterator of a for loop -/
noncomputable def IterCls (c : Value) : Prop := c = .type "list_iterator" ∨ c = .type "range_iterator"
theorem noIter_list : ¬ IterCls (.type "list") := fun h => h.elim (fun e => absurd (Value.type.inj e) (by decide)) fun e => absurd (Value.type.inj e) (by decide)
theorem noIter_tuple : ¬ IterCls (.type "tuple") := fun h => h.elim (fun e => absurd (Value.type.inj e) (by decide)) fun e => absurd (Value.type.inj e) (by decide)
theorem noIter_dict : ¬ IterCls (.type "dict") := fun h => h.elim (fun e => absurd (Value.type.inj e) (by decide)) fun e => absurd (Value.type.inj e) (by decide)
theorem noIter_ref {a : Addr} : ¬ IterCls (.ref a) := fun h => h.elim (fun e => nomatch e) fun e => nomatch e
/-- what is no cell and no iterator stays -/
noncomputable def Keeps (n n' : Ledger) : Prop := ∀ p ∈ n, NC p.2 → ¬ IterCls p.2.cls → p ∈ n'
theorem Keeps.of_sub {n n' : Ledger} (h : ∀ p ∈ n, p ∈ n') : Keeps n n' := fun p hp _ _ => h p hp
theorem Keeps.of_nc {n n' : Ledger} (h : ∀ p ∈ n, NC p.2 → p ∈ n') : Keeps n n' := fun p hp a _ => h p hp a
theorem Hdr.nc {P : Params} {n n' : Ledger} {x dx l : Addr} {as : List Addr} {k : Nat} {kvs : List (Str × Str)} (H : Hdr P n x dx l as k kvs) (hs : Keeps n n') : Hdr P n' x dx l as k kvs := by
  obtain ⟨hx, ⟨tk, hdx⟩, hl, hp⟩ := H
  refine ⟨hs _ hx (by intro v e; cases e) noIter_ref, ⟨tk, hs _ hdx (by intro v e; cases e) noIter_dict⟩, hs _ hl (by intro v e; cases e) noIter_list, ?_⟩
  clear hl
  induction hp with
  | nil => exact .nil
  | cons t₁ t₂ m h r ih => exact .cons t₁ t₂ m (hs _ h (by intro v e; cases e) noIter_tuple) ih
theorem Asks.nc {n n' : Ledger} {vs : List Value} {ps : List (Int × Int)} (H : Asks n vs ps) (hs : Keeps n n') : Asks n' vs ps := by
  induction H with
  | nil => exact .nil
  | cons t₁ t₂ m h r ih => exact .cons t₁ t₂ m (hs _ h (by intro v e; cases e) noIter_tuple) ih
theorem Keeps.list {n n' : Ledger} (hs : Keeps n n') {l : Addr} {its : Array Value} {k : Nat} (h : (l, listOf its k) ∈ n) : (l, listOf its k) ∈ n' := hs _ h (by intro v e; cases e) noIter_list
theorem Hdr.off {P : Params} {h₀ h : Heap} {L : Addr} {n n' : Ledger} (N : News h₀ L h n) {x dx l l₂ : Addr} {o₂ : Obj} {as : List Addr} {k : Nat} {kvs : List (Str × Str)} (H : Hdr P n x dx l as k kvs) (h2 : (l₂, o₂) ∈ n) (hc : o₂.cls = .type "list") (hne : l ≠ l₂) (hs : ∀ p ∈ n, p.1 ≠ l₂ → p ∈ n') : Hdr P n' x dx l as k kvs := by
  obtain ⟨hx, ⟨tk, hdx⟩, hl, hp⟩ := H
  refine ⟨hs _ hx (ne_of_objs N hx h2 (by rw [hc]; intro e; cases e)), ⟨tk, hs _ hdx (ne_of_objs N hdx h2 (by rw [hc]; intro e; exact absurd (Value.type.inj e) (by decide)))⟩, hs _ hl hne, hp.mono fun p hm hc' => hs p hm ?_⟩
  exact ne_of_objs N (a := p.1) (o := p.2) hm h2 (by rw [hc, hc']; intro e; exact absurd (Value.type.inj e) (by decide))
section
variable {P : Params} {h₀ h : Heap} {L : Addr} {n n' : Ledger} {A : LAt} {lc : Addr} {σ : LSt}
theorem LD.nc (H : LD P n A lc σ) (hs : Keeps n n') : LD P n' A lc σ := by
  obtain ⟨⟨as, k, kvs, f1, f2⟩, ⟨as2, k2, g1⟩, ⟨vs, k3, w1, w2⟩, ⟨vs4, k4, c1, c2⟩, n1, n2, n3, n4, n5, n6⟩ := H
  exact ⟨⟨as, k, kvs, f1.nc hs, f2⟩, ⟨as2, k2, g1.nc hs⟩, ⟨vs, k3, hs.list w1, w2⟩, ⟨vs4, k4, hs.list c1, c2⟩, n1, n2, n3, n4, n5, n6⟩
theorem LD.mono (H : LD P n A lc σ) (hs : ∀ p ∈ n, p ∈ n') : LD P n' A lc σ := H.nc (.of_sub hs)
theorem LD.served (N : News h₀ L h n) (H : LD P n A lc σ) (hs : ∀ p ∈ n, p.1 ≠ A.lf → p ∈ n') {as : List Addr} {k : Nat} {kvs : List (Str × Str)} {fs : List (Nat × Str)} (hd : Hdr P n' A.xf A.dxf A.lf as k kvs) (hf : FreeIs kvs fs) : LD P n' A lc { σ with fs := fs } := by
  obtain ⟨⟨as1, k1, kvs1, f1, f2⟩, ⟨as2, k2, g1⟩, ⟨vs, k3, w1, w2⟩, ⟨vs4, k4, c1, c2⟩, n1, n2, n3, n4, n5, n6⟩ := H
  exact ⟨⟨as, k, kvs, hd, hf⟩, ⟨as2, k2, g1.off N f1.list rfl (Ne.symm n1) hs⟩, ⟨vs, k3, hs _ w1 (Ne.symm n2), w2⟩, ⟨vs4, k4, hs _ c1 n4, c2⟩, n1, n2, n3, n4, n5, n6⟩
theorem LD.added (N : News h₀ L h n) (H : LD P n A lc σ) (hs : ∀ p ∈ n, p.1 ≠ A.lg → p ∈ n') {as : List Addr} {k : Nat} {kvs : List (Str × Str)} (hd : Hdr P n' A.xg A.dxg A.lg as k kvs) : LD P n' A lc { σ with gv := kvs } := by
  obtain ⟨⟨as1, k1, kvs1, f1, f2⟩, ⟨as2, k2, g1⟩, ⟨vs, k3, w1, w2⟩, ⟨vs4, k4, c1, c2⟩, n1, n2, n3, n4, n5, n6⟩ := H
  exact ⟨⟨as1, k1, kvs1, f1.off N g1.list rfl n1 hs, f2⟩, ⟨as, k, hd⟩, ⟨vs, k3, hs _ w1 (Ne.symm n3), w2⟩, ⟨vs4, k4, hs _ c1 n5, c2⟩, n1, n2, n3, n4, n5, n6⟩
theorem LD.worded (N : News h₀ L h n) (H : LD P n A lc σ) (hs : ∀ p ∈ n, p.1 ≠ A.lw → p ∈ n') {vs' : List Value} {k : Nat} {ws : List Str} (hd : (A.lw, listOf vs'.toArray k) ∈ n') (hw : StrsAre vs' ws) : LD P n' A lc { σ with words := ws } := by
  obtain ⟨⟨as1, k1, kvs1, f1, f2⟩, ⟨as2, k2, g1⟩, ⟨vs, k3, w1, w2⟩, ⟨vs4, k4, c1, c2⟩, n1, n2, n3, n4, n5, n6⟩ := H
  exact ⟨⟨as1, k1, kvs1, f1.off N w1 rfl n2 hs, f2⟩, ⟨as2, k2, g1.off N w1 rfl n3 hs⟩, ⟨vs', k, hd, hw⟩, ⟨vs4, k4, hs _ c1 n6, c2⟩, n1, n2, n3, n4, n5, n6⟩
theorem LD.celled (H : LD P n A lc σ) (hs : ∀ p ∈ n, p ∈ n') {D : Addr} {vs' : List Value} {k : Nat} {zs : List Int} (hd : (D, listOf vs'.toArray k) ∈ n') (hw : IntsAre vs' zs) (hD : ∀ p ∈ n, p.1 ≠ D) : LD P n' A D { σ with cells := zs } := by
  obtain ⟨⟨as1, k1, kvs1, f1, f2⟩, ⟨as2, k2, g1⟩, ⟨vs, k3, w1, w2⟩, ⟨vs4, k4, c1, c2⟩, n1, n2, n3, n4, n5, n6⟩ := H
  exact ⟨⟨as1, k1, kvs1, f1.mono hs, f2⟩, ⟨as2, k2, g1.mono hs⟩, ⟨vs, k3, hs _ w1, w2⟩, ⟨vs', k, hd, hw⟩, n1, n2, n3, fun e => hD _ f1.list e.symm, fun e => hD _ g1.list e.symm, fun e => hD _ w1 e.symm⟩
theorem LD.used (H : LD P n A lc σ) (u : Nat) : LD P n A lc { σ with used := u } := ⟨H.f, H.g, H.ws, H.cs, H.n1, H.n2, H.n3, H.n4, H.n5, H.n6⟩
end
theorem ne_of_nc {h₀ h : Heap} {L : Addr} {n : Ledger} (N : News h₀ L h n) {c : Addr} {o : Obj} {v : Option Value} (hm : (c, o) ∈ n) (hd : o.data = .cell v) : ∀ p ∈ n, NC p.2 → p.1 ≠ c := by
  intro p hp hn e
  have z1 := (N _ hp).1
  have z2 := (N _ hm).1
  rw [e] at z1
  exact hn v ((congrArg Obj.data (Option.some.inj (z1.symm.trans z2))).trans hd)
section
variable {M : Model} {B : Around} {E : Value → Shared → Prop} {s : Shared} {h₀ : Heap} {L a : Addr} {m : Str → Option Value} {cn : Str} {cs : Scope} {ccd : Value} {cl : List (Str × Addr)}
  {x : Str} {v : Value} {Q : Unit → Shared → Prop} {news : Ledger} {c : Addr} {o : Obj} {v₀ : Option Value}
/-- a store to a cell that a hypothesis tells -/
theorem storeX_P (F : Fr h₀ L s.heap m) (N : News h₀ L s.heap news) (hc : cl.lookup x = some c) (hm : (c, o) ∈ news) (hd : o.data = .cell v₀)
    (h : ∀ h' o' n', Fr h₀ L h' m → News h₀ L h' n' → (∀ p ∈ news, p.1 ≠ c → p ∈ n') → (∀ p ∈ news, NC p.2 → p ∈ n') → (c, o') ∈ n' → o'.data = .cell (some v) → Q () { s with heap := h' })
    (hk : cs.kind = .function := by rfl) (hx : (envX cn cs L a ccd cl).kindOf x = some .cell := by rfl) : wpAny M B (storeName (envX cn cs L a ccd cl) x v) Q E s := by
  have hmem := N (c, o) hm
  refine wpAny_storeName_cell hk hx hc ⟨o, hmem.1, hd⟩ fun h' hv hs => ?_
  obtain ⟨o', ho', hd'⟩ := hv
  refine h h' o' (putAt c o' news) ⟨F.ns.sameBut hs (Ne.symm hmem.2.1), fun b ob e => (hs.2 b (fun q => ?_)).trans (F.keep b ob e), F.above⟩ (news_putAt N hm hs ho') (fun p hp hne => mem_putAt_ne hp hne) (fun p hp hn => mem_putAt_ne hp (ne_of_nc N hm hd p hp hn)) (mem_putAt_self hm) hd'
  rw [q, hmem.2.2] at e; cases e
theorem holdStore (hx : (envX cn cs L a ccd cl).kindOf x = some .cell) (h : Hold (wpAny M B (storeName (envX cn cs L a ccd cl) x v) Q E s)) : wpAny M B (storeName (envX cn cs L a ccd cl) x v) Q E s := h
end
/-- the law's state in its first loop -/
structure LK (P : Params) (U : Addr) (A : LAt) (DA : Addr) (oDA : Obj) (m : Str → Option Value) (n : Ledger) (vs : List Value) (ps : List (Int × Int)) (σ : LSt) (lc : Addr) : Prop where
  mf : m (Str.ofString "free") = some (.ref A.xf)
  mg : m (Str.ofString "given") = some (.ref A.xg)
  mw : m (Str.ofString "words") = some (.ref A.lw)
  mc : m (Str.ofString "cells") = some (.ref lc)
  u1 : ∃ o t, (U + 1, o) ∈ n ∧ o.data = .cell (some (.int (σ.used : Nat) t))
  u2 : ∃ o v, (U + 1 + 1, o) ∈ n ∧ o.data = .cell v
  u3 : ∃ o v, (U + 1 + 1 + 1, o) ∈ n ∧ o.data = .cell v
  u4 : ∃ o v, (U + 1 + 1 + 1 + 1, o) ∈ n ∧ o.data = .cell v
  d : LD P n A lc σ
  ak : Asks n vs ps
  ok : ∀ p ∈ ps, ∃ k : Nat, 1 ≤ k ∧ k ≤ 5 ∧ p.1 = (k : Nat) ∧ (p.2 = 0 ∨ p.2 = 1)
  inv : LInv σ
  len : σ.words.length + ps.length ≤ 10
  ne : σ.words ≠ [] ∨ 5 ≤ ps.length
  da : (DA, oDA) ∈ n
  d1 : DA ≠ A.lf
  d2 : DA ≠ A.lg
  d3 : DA ≠ A.lw
theorem LK.sub {P : Params} {U : Addr} {A : LAt} {DA : Addr} {oDA : Obj} {m m' : Str → Option Value} {n n' : Ledger} {vs : List Value} {ps : List (Int × Int)} {σ : LSt} {lc : Addr} (H : LK P U A DA oDA m n vs ps σ lc) (hs : ∀ p ∈ n, p ∈ n')
    (h1 : m' (Str.ofString "free") = m (Str.ofString "free")) (h2 : m' (Str.ofString "given") = m (Str.ofString "given")) (h3 : m' (Str.ofString "words") = m (Str.ofString "words")) (h4 : m' (Str.ofString "cells") = m (Str.ofString "cells")) : LK P U A DA oDA m' n' vs ps σ lc := by
  obtain ⟨mf, mg, mw, mc, ⟨o1, t1, u1, e1⟩, ⟨o2, t2, u2, e2⟩, ⟨o3, t3, u3, e3⟩, ⟨o4, t4, u4, e4⟩, d, ak, ok, inv, len, ne, da, d1, d2, d3⟩ := H
  exact ⟨h1.trans mf, h2.trans mg, h3.trans mw, h4.trans mc, ⟨o1, t1, hs _ u1, e1⟩, ⟨o2, t2, hs _ u2, e2⟩, ⟨o3, t3, hs _ u3, e3⟩, ⟨o4, t4, hs _ u4, e4⟩, d.mono hs, ak.mono fun p hp _ => hs p hp, ok, inv, len, ne, hs _ da, d1, d2, d3⟩
theorem asked_ok (ns : List Int) : ∀ p ∈ askedOf ns, ∃ k : Nat, 1 ≤ k ∧ k ≤ 5 ∧ p.1 = (k : Nat) ∧ (p.2 = 0 ∨ p.2 = 1) := by
  intro p hp
  unfold askedOf at hp
  rcases List.mem_append.mp hp with hp | hp
  · obtain ⟨x, _, rfl⟩ := List.mem_map.mp hp
    have h1 := Int.fmod_nonneg_of_pos x (by decide : (0 : Int) < 5)
    have h2 := Int.fmod_lt_of_pos x (by decide : (0 : Int) < 5)
    have h3 := Int.fmod_nonneg_of_pos (Int.fdiv x 5) (by decide : (0 : Int) < 2)
    have h4 := Int.fmod_lt_of_pos (Int.fdiv x 5) (by decide : (0 : Int) < 2)
    refine ⟨(1 + Int.fmod x 5).toNat, by omega, by omega, ?_, ?_⟩
    · show 1 + Int.fmod x 5 = _
      omega
    · show Int.fmod (Int.fdiv x 5) 2 = 0 ∨ Int.fmod (Int.fdiv x 5) 2 = 1
      omega
  · simp only [List.mem_cons, List.not_mem_nil, or_false] at hp
    rcases hp with rfl | rfl | rfl | rfl | rfl
    · exact ⟨3, by decide, by decide, rfl, .inr rfl⟩
    · exact ⟨1, by decide, by decide, rfl, .inl rfl⟩
    · exact ⟨4, by decide, by decide, rfl, .inr rfl⟩
    · exact ⟨1, by decide, by decide, rfl, .inr rfl⟩
    · exact ⟨5, by decide, by decide, rfl, .inl rfl⟩
theorem asked_len (ns : List Int) : (askedOf ns).length ≤ 10 ∧ 5 ≤ (askedOf ns).length := by
  unfold askedOf
  rw [List.length_append, List.length_map, List.length_take]
  simp only [List.length_cons, List.length_nil]
  omega
/-- the ledger without the iterator -/
theorem keeps_off {h₀ h : Heap} {L : Addr} {n : Ledger} (N : News h₀ L h n) {I : Addr} {oI : Obj} (hI : (I, oI) ∈ n) (hc : IterCls oI.cls) : Keeps n (n.filter fun p => p.1 ≠ I) := fun p hp _ hn => List.mem_filter.mpr ⟨hp, by simpa using ne_of_objs N (a := p.1) (o := p.2) hp hI (fun e => hn (by rw [e]; exact hc))⟩
theorem sub_off {n : Ledger} {I : Addr} {oI : Obj} (hI : (I, oI) ∈ n) : ∀ p ∈ (I, oI) :: (n.filter fun p => p.1 ≠ I), p ∈ n := by
  intro p hp
  rcases List.mem_cons.mp hp with rfl | hp
  · exact hI
  · exact (List.mem_filter.mp hp).1
theorem off_off {n : Ledger} {I : Addr} : ∀ p ∈ (n.filter fun p => p.1 ≠ I), p.1 ≠ I := fun p hp => by simpa using (List.mem_filter.mp hp).2
theorem turn_abs {M : Model} {B : Around} {E : Value → Shared → Prop} {s : Shared} {env : Env} {target : Expr} {v : Value} {body : List Stmt} {P POST : Flow → Shared → Prop} (h : wpAny M B (assign target env v) (fun _ s₂ => wpAny M B (execs body env) P E s₂) E s) (hp : ∀ f s', P f s' → POST f s') :
    wpAny M B (assign target env v) (fun _ s₂ => wpAny M B (execs body env) POST E s₂) E s :=
  wpAny_mono h (fun _ _ z => wpAny_mono z (fun f s' q => hp f s' q) fun _ _ e => e) fun _ _ e => e
/-- a turn of the law's first loop is through -/
noncomputable def TEnd (P : Params) (h₀ : Heap) (L U : Addr) (A : LAt) (DA : Addr) (oDA : Obj) (I : Addr) (o' : Obj) (s₁ : Shared) (vs : List Value) (ps : List (Int × Int)) (f : Flow) (s₂ : Shared) : Prop :=
  f = .next ∧ ∃ h' tk m' n' σ lc, s₂ = { s₁ with heap := h', toks := tk } ∧ Fr h₀ L h' m' ∧ News h₀ L h' ((I, o') :: n') ∧ (∀ p ∈ n', p.1 ≠ I) ∧ LK P U A DA oDA m' n' vs ps σ lc
/-- behind the asking, before the sizes -/
noncomputable def TMid (P : Params) (h₀ : Heap) (L U : Addr) (A : LAt) (DA : Addr) (oDA : Obj) (I : Addr) (o' : Obj) (s₁ : Shared) (vs : List Value) (ps : List (Int × Int)) (f : Flow) (s₂ : Shared) : Prop :=
  f = .next ∧ ∃ h' tk m' n' σ lc, s₂ = { s₁ with heap := h', toks := tk } ∧ Fr h₀ L h' m' ∧ News h₀ L h' n' ∧ (I, o') ∈ n' ∧ LK P U A DA oDA m' n' vs ps σ lc
theorem LK.off {P : Params} {h₀ : Heap} {L U : Addr} {A : LAt} {DA : Addr} {oDA : Obj} {I : Addr} {o' : Obj} {vs : List Value} {ps : List (Int × Int)} {h' : Heap} {m' : Str → Option Value} {n' : Ledger} {σ : LSt} {lc : Addr}
    (N : News h₀ L h' n') (hI : (I, o') ∈ n') (hc : IterCls o'.cls) (h1 : U + 1 ≠ I) (h2 : U + 1 + 1 ≠ I) (h3 : U + 1 + 1 + 1 ≠ I) (h4 : U + 1 + 1 + 1 + 1 ≠ I) (H : LK P U A DA oDA m' n' vs ps σ lc) (hda : oDA.cls = .type "list") (hda' : NC oDA) :
    LK P U A DA oDA m' (n'.filter fun p => p.1 ≠ I) vs ps σ lc := by
  have K := keeps_off N hI hc
  obtain ⟨mf, mg, mw, mc, ⟨o1, t1, u1, e1⟩, ⟨o2, t2, u2, e2⟩, ⟨o3, t3, u3, e3⟩, ⟨o4, t4, u4, e4⟩, d, ak, ok, inv, len, ne, da, d1, d2, d3⟩ := H
  have c1 : ∀ {q : Addr × Obj}, q ∈ n' → q.1 ≠ I → q ∈ n'.filter fun p => p.1 ≠ I := fun hq hn => List.mem_filter.mpr ⟨hq, by simpa using hn⟩
  exact ⟨mf, mg, mw, mc, ⟨o1, t1, c1 u1 h1, e1⟩, ⟨o2, t2, c1 u2 h2, e2⟩, ⟨o3, t3, c1 u3 h3, e3⟩, ⟨o4, t4, c1 u4 h4, e4⟩, d.nc K, ak.nc K, ok, inv, len, ne, K _ da hda' (by rw [hda]; exact noIter_list), d1, d2, d3⟩
theorem TEnd.of {P : Params} {h₀ : Heap} {L U : Addr} {A : LAt} {DA : Addr} {oDA : Obj} {I : Addr} {o' : Obj} {s₁ : Shared} {vs : List Value} {ps : List (Int × Int)} {h' : Heap} {tk : Nat} {m' : Str → Option Value} {n' : Ledger} {σ : LSt} {lc : Addr}
    (F : Fr h₀ L h' m') (N : News h₀ L h' n') (hI : (I, o') ∈ n') (hc : o'.cls = .type "list_iterator") (h1 : U + 1 ≠ I) (h2 : U + 1 + 1 ≠ I) (h3 : U + 1 + 1 + 1 ≠ I) (h4 : U + 1 + 1 + 1 + 1 ≠ I) (H : LK P U A DA oDA m' n' vs ps σ lc) (hda : oDA.cls = .type "list") (hda' : NC oDA) :
    TEnd P h₀ L U A DA oDA I o' s₁ vs ps .next { s₁ with heap := h', toks := tk } :=
  ⟨rfl, h', tk, m', n'.filter fun p => p.1 ≠ I, σ, lc, rfl, F, fun p hp => N p (sub_off hI p hp), off_off, H.off N hI (.inl hc) h1 h2 h3 h4 hda hda'⟩
theorem part_eq {k : Nat} (h1 : 1 ≤ k) (h5 : k ≤ 5) : Int.fdiv 256 (2 ^ ((k : Int)).toNat) = ((partOfSize k : Nat) : Int) := by
  have : k = 1 ∨ k = 2 ∨ k = 3 ∨ k = 4 ∨ k = 5 := by omega
  rcases this with rfl | rfl | rfl | rfl | rfl <;> decide
theorem strOk_word {w : Str} (h : WordOk w) : PyData.strOk w = true := by
  unfold PyData.strOk
  rw [Array.all_eq_true']
  intro c hc
  rcases h.2 c hc with rfl | rfl <;> decide
theorem plain_word {w : Str} (h : WordOk w) : Plain w := by
  intro c hc
  rcases h.2 c hc with rfl | rfl <;> decide
theorem execs_append (env : Env) : ∀ l₁ l₂ : List Stmt, execs (l₁ ++ l₂) env = (do match ← execs l₁ env with | .next => execs l₂ env | f => pure f)
  | [], l₂ => by
    show execs l₂ env = (do match ← (pure Flow.next : Sem Flow) with | .next => execs l₂ env | f => pure f)
    rw [pure_bind]
  | st :: r, l₂ => by
    rw [List.cons_append, execs_cons, execs_append env r l₂, execs_cons, bind_assoc]
    congr 1
    funext f
    cases f <;> simp
theorem turn_cut (i : Nat) {M : Model} {B : Around} {E : Value → Shared → Prop} {s : Shared} {env : Env} {target : Expr} {v : Value} {body : List Stmt} {P MID : Flow → Shared → Prop} (h : wpAny M B (assign target env v) (fun _ s₂ => wpAny M B (execs (body.take i) env) MID E s₂) E s) (hn : ∀ f s', MID f s' → f = .next) (ht : ∀ s', MID .next s' → wpAny M B (execs (body.drop i) env) P E s') :
    wpAny M B (assign target env v) (fun _ s₂ => wpAny M B (execs body env) P E s₂) E s := by
  refine wpAny_mono h (fun _ s₂ z => ?_) fun _ _ e => e
  have e : execs body env = execs (body.take i ++ body.drop i) env := by rw [List.take_append_drop]
  rw [e, execs_append]
  refine wpAny_bind (wpAny_mono z (fun f s' q => ?_) fun _ _ e => e)
  obtain rfl := hn f s' q
  exact ht s' q
/-- what stands beside the law's data in a turn -/
structure SD (U I : Addr) (o' o1 o2 o3 o4 : Obj) (DA : Addr) (oDA : Obj) (n : Ledger) (vs : List Value) (ps : List (Int × Int)) : Prop where
  it : (I, o') ∈ n
  ci : IterCls o'.cls
  ak : Asks n vs ps
  da : (DA, oDA) ∈ n
  u1 : (U + 1, o1) ∈ n
  u2 : (U + 1 + 1, o2) ∈ n
  u3 : (U + 1 + 1 + 1, o3) ∈ n
  u4 : (U + 1 + 1 + 1 + 1, o4) ∈ n
  c1 : ∃ v, o1.data = .cell v
  c2 : ∃ v, o2.data = .cell v
  c3 : ∃ v, o3.data = .cell v
  c4 : ∃ v, o4.data = .cell v
  i1 : U + 1 ≠ I
  i2 : U + 1 + 1 ≠ I
  i3 : U + 1 + 1 + 1 ≠ I
  i4 : U + 1 + 1 + 1 + 1 ≠ I
section
variable {U I : Addr} {o' o1 o2 o3 o4 : Obj} {DA : Addr} {oDA : Obj} {n n' : Ledger} {vs : List Value} {ps : List (Int × Int)} {h₀ h : Heap} {L : Addr}
theorem SD.sub (S : SD U I o' o1 o2 o3 o4 DA oDA n vs ps) (hs : ∀ p ∈ n, p ∈ n') : SD U I o' o1 o2 o3 o4 DA oDA n' vs ps :=
  ⟨hs _ S.it, S.ci, S.ak.mono fun p hp _ => hs p hp, hs _ S.da, hs _ S.u1, hs _ S.u2, hs _ S.u3, hs _ S.u4, S.c1, S.c2, S.c3, S.c4, S.i1, S.i2, S.i3, S.i4⟩
theorem SD.off (N : News h₀ L h n) (S : SD U I o' o1 o2 o3 o4 DA oDA n vs ps) {l : Addr} {its : Array Value} {k : Nat} (hl : (l, listOf its k) ∈ n) (hs : ∀ p ∈ n, p.1 ≠ l → p ∈ n') (hd : DA ≠ l) : SD U I o' o1 o2 o3 o4 DA oDA n' vs ps := by
  obtain ⟨v1, c1⟩ := S.c1
  obtain ⟨v2, c2⟩ := S.c2
  obtain ⟨v3, c3⟩ := S.c3
  obtain ⟨v4, c4⟩ := S.c4
  have hn : NC (listOf its k) := by intro v e; cases e
  exact ⟨hs _ S.it (ne_of_objs N S.it hl (fun e => noIter_list (by have := S.ci; rw [e] at this; exact this))), S.ci, S.ak.mono fun p hp hc => hs p hp (ne_of_objs N (a := p.1) (o := p.2) hp hl (by rw [hc]; intro e; exact absurd (Value.type.inj e) (by decide))), hs _ S.da hd,
    hs _ S.u1 (Ne.symm (ne_of_nc N S.u1 c1 _ hl hn)), hs _ S.u2 (Ne.symm (ne_of_nc N S.u2 c2 _ hl hn)), hs _ S.u3 (Ne.symm (ne_of_nc N S.u3 c3 _ hl hn)), hs _ S.u4 (Ne.symm (ne_of_nc N S.u4 c4 _ hl hn)), S.c1, S.c2, S.c3, S.c4, S.i1, S.i2, S.i3, S.i4⟩
theorem SD.st2 (S : SD U I o' o1 o2 o3 o4 DA oDA n vs ps) {o : Obj} {v : Option Value} (hda : NC oDA) (hk : ∀ p ∈ n, p.1 ≠ U + 1 + 1 → p ∈ n') (hnc : ∀ p ∈ n, NC p.2 → p ∈ n') (hc : (U + 1 + 1, o) ∈ n') (hd : o.data = .cell v) : SD U I o' o1 o o3 o4 DA oDA n' vs ps :=
  ⟨hk _ S.it (Ne.symm S.i2), S.ci, S.ak.nc (.of_nc hnc), hnc _ S.da hda, hk _ S.u1 (by show (_ : Nat) ≠ _; omega), hc, hk _ S.u3 (by show (_ : Nat) ≠ _; omega), hk _ S.u4 (by show (_ : Nat) ≠ _; omega), S.c1, ⟨v, hd⟩, S.c3, S.c4, S.i1, S.i2, S.i3, S.i4⟩
theorem SD.st3 (S : SD U I o' o1 o2 o3 o4 DA oDA n vs ps) {o : Obj} {v : Option Value} (hda : NC oDA) (hk : ∀ p ∈ n, p.1 ≠ U + 1 + 1 + 1 → p ∈ n') (hnc : ∀ p ∈ n, NC p.2 → p ∈ n') (hc : (U + 1 + 1 + 1, o) ∈ n') (hd : o.data = .cell v) : SD U I o' o1 o2 o o4 DA oDA n' vs ps :=
  ⟨hk _ S.it (Ne.symm S.i3), S.ci, S.ak.nc (.of_nc hnc), hnc _ S.da hda, hk _ S.u1 (by show (_ : Nat) ≠ _; omega), hk _ S.u2 (by show (_ : Nat) ≠ _; omega), hc, hk _ S.u4 (by show (_ : Nat) ≠ _; omega), S.c1, S.c2, ⟨v, hd⟩, S.c4, S.i1, S.i2, S.i3, S.i4⟩
theorem SD.st1 (S : SD U I o' o1 o2 o3 o4 DA oDA n vs ps) {o : Obj} {v : Option Value} (hda : NC oDA) (hk : ∀ p ∈ n, p.1 ≠ U + 1 → p ∈ n') (hnc : ∀ p ∈ n, NC p.2 → p ∈ n') (hc : (U + 1, o) ∈ n') (hd : o.data = .cell v) : SD U I o' o o2 o3 o4 DA oDA n' vs ps :=
  ⟨hk _ S.it (Ne.symm S.i1), S.ci, S.ak.nc (.of_nc hnc), hnc _ S.da hda, hc, hk _ S.u2 (by show (_ : Nat) ≠ _; omega), hk _ S.u3 (by show (_ : Nat) ≠ _; omega), hk _ S.u4 (by show (_ : Nat) ≠ _; omega), ⟨v, hd⟩, S.c2, S.c3, S.c4, S.i1, S.i2, S.i3, S.i4⟩
end
theorem part_le {k : Nat} (h1 : 1 ≤ k) (h5 : k ≤ 5) : partOfSize k ≤ 128 ∧ 8 ≤ partOfSize k := by
  have : k = 1 ∨ k = 2 ∨ k = 3 ∨ k = 4 ∨ k = 5 := by omega
  rcases this with rfl | rfl | rfl | rfl | rfl <;> decide
theorem of_name {k : Nat} (h1 : 1 ≤ k) (h5 : k ≤ 5) {o : Int} (ho : o = 0 ∨ o = 1) : Plain (nameOf ofn (k : Nat) o) ∧ (nameOf ofn (k : Nat) o).length ≤ 100 ∧ (ofn ++ Str.ofString (toString ((k : Nat) : Int))).length ≤ 100 ∧ NameOk (nameOf ofn (k : Nat) o) := by
  have : k = 1 ∨ k = 2 ∨ k = 3 ∨ k = 4 ∨ k = 5 := by omega
  have q : ∀ k ∈ [1, 2, 3, 4, 5], ∀ o ∈ [(0 : Int), 1], okB (nameOf ofn (k : Nat) o) = true ∧ (nameOf ofn (k : Nat) o).length ≤ 100 ∧ (ofn ++ Str.ofString (toString ((k : Nat) : Int))).length ≤ 100 := by decide +kernel
  have z := q k (by simp; omega) o (by simp; exact ho)
  exact ⟨(okB_name z.1).2, z.2.1, z.2.2, (okB_name z.1).1⟩
theorem fits_no {u p : Nat} (h : 256 < u + p) : decide ((u : Int) + (p : Nat) - 1 < 256) = false := decide_eq_false (by omega)
theorem fits_yes {u p : Nat} (h : u + p ≤ 256) : decide ((u : Int) + (p : Nat) - 1 < 256) = true := decide_eq_true (by omega)
theorem used_not {u p : Nat} (h : 256 < u + p) (hp : p ≤ 128) : u ≠ 0 := by omega
theorem len_tail {ws : List Str} {p : Int × Int} {ps : List (Int × Int)} (h : ws.length + (p :: ps).length ≤ 10) : ws.length + ps.length ≤ 10 := by simp only [List.length_cons] at h; omega
theorem len_more {ws : List Str} {w : Str} {p : Int × Int} {ps : List (Int × Int)} (h : ws.length + (p :: ps).length ≤ 10) : (ws ++ [w]).length + ps.length ≤ 10 := by simp only [List.length_cons, List.length_append, List.length_nil] at h ⊢; omega
theorem first_nonterm {σ : LSt} (hB : LBounds σ) : (decide (256 - (σ.used : Int) ≥ 256) != decide (σ.words = [])) = false := by
  have e : (256 - (σ.used : Int) ≥ 256) ↔ σ.words = [] := by rw [hB.none]; omega
  have e1 : decide (256 - (σ.used : Int) ≥ 256) = decide (σ.words = []) := decide_eq_decide.mpr e
  rw [e1, bne_self_eq_false]
theorem ne_str_self {prog : Program} {w : World} {A : Around} {E : Value → Shared → Prop} {s : Shared} {x : Str} {t u : Tok} {Q : Value → Shared → Prop} (h : Q (.bool false) s) : wpAny (model prog w) A (compareOp .NotEq (.str x t) (.str x u)) Q E s :=
  ne_str (by rw [bne_self_eq_false]; exact h)
theorem size_bit {u i : Nat} (hu : u ≤ 256) (hi : i < 6) : ((Int.fmod (Int.fdiv (256 - (u : Int)) (2 ^ (8 - ((0 : Int) + (i : Nat))).toNat)) 2) == 1) = decide ((256 - u) / 2 ^ (8 - i) % 2 = 1) := by
  have e : (256 - (u : Int)) = ((256 - u : Nat) : Int) := by omega
  have e2 : (8 - ((0 : Int) + (i : Nat))).toNat = 8 - i := by omega
  have e3 : ((2 : Int) ^ (8 - i)) = ((2 ^ (8 - i) : Nat) : Int) := by simp
  rw [e, e2, e3, Int.fdiv_eq_ediv_of_nonneg _ (Int.natCast_nonneg _), Int.fmod_eq_emod_of_nonneg _ (by decide), ← Int.natCast_ediv]
  generalize (256 - u) / 2 ^ (8 - i) = q
  rw [Bool.eq_iff_iff, beq_iff_eq, decide_eq_true_iff]
  omega
noncomputable def sizesTo (u i : Nat) : List Int := ((List.range i).filter fun q => (256 - u) / 2 ^ (8 - q) % 2 = 1).map fun q : Nat => (q : Int)
theorem sizes_snoc {u i : Nat} (hu : u ≤ 256) (hi : i < 6) {ys : List Value} {t : Tok} (hb : ((Int.fmod (Int.fdiv (256 - (u : Int)) (2 ^ (8 - ((0 : Int) + (i : Nat))).toNat)) 2) == 1) = true) (hy : IntsAre ys (sizesTo u i)) : IntsAre (ys ++ [Value.int ((0 : Int) + (i : Nat)) t]) (sizesTo u (i + 1)) := by
  rw [size_bit hu hi, decide_eq_true_iff] at hb
  have e : sizesTo u (i + 1) = sizesTo u i ++ [(0 : Int) + (i : Nat)] := by
    unfold sizesTo
    rw [List.range_succ, List.filter_append, List.map_append]
    simp [hb]
  rw [e]
  exact IntsAre.append hy (.cons _ _ .nil)
theorem sizes_skip {u i : Nat} (hu : u ≤ 256) (hi : i < 6) {ys : List Value} (hb : ((Int.fmod (Int.fdiv (256 - (u : Int)) (2 ^ (8 - ((0 : Int) + (i : Nat))).toNat)) 2) == 1) = false) (hy : IntsAre ys (sizesTo u i)) : IntsAre ys (sizesTo u (i + 1)) := by
  rw [size_bit hu hi, decide_eq_false_iff_not] at hb
  have e : sizesTo u (i + 1) = sizesTo u i := by
    unfold sizesTo
    rw [List.range_succ, List.filter_append, List.map_append]
    simp [hb]
  rw [e]
  exact hy
theorem strs_item {ws : List Value} {zs : List Str} {i : Nat} {v : Value} (hi : StrsAre ws zs) (hv : ws.toArray[i]? = some v) : ∃ z t, zs[i]? = some z ∧ v = .str z t := by
  induction hi generalizing i with
  | nil => simp at hv
  | cons x t r ih =>
    cases i with
    | zero => exact ⟨x, t, rfl, by simpa using hv.symm⟩
    | succ i => exact ih (by simpa using hv)
theorem map_take_succ {α β : Type} (f : α → β) {l : List α} {i : Nat} {a : α} (h : l[i]? = some a) : (l.take (i + 1)).map f = (l.take i).map f ++ [f a] := by
  rw [List.take_add_one, h, Option.toList_some, List.map_append]; rfl
noncomputable def namedK (z : Int) : Str := Str.ofString "free-" ++ Str.ofString (toString z)
theorem sizesTo_eq (u : Nat) : (sizesTo u 6).map namedK = (sizesOf u).map freeName := by
  unfold sizesTo sizesOf
  rw [List.map_map]
  refine List.map_congr_left fun k hk => ?_
  show namedK (k : Int) = freeName k
  unfold freeName nameOf namedK
  rw [if_neg (by decide)]
theorem sizes_names {σ : LSt} (h : LInv σ) {kvs : List (Str × Str)} (hf : FreeIs kvs σ.fs) {ss : List Str} (hp : ss.Perm ((kvs.map (·.1)).map Txt.lower)) (hs : sortedS ss = true) : ss = (sizesTo σ.used 6).map namedK := by
  rw [sizesTo_eq]
  refine linv_sizes h ?_ hs
  refine hp.trans (List.Perm.of_eq ?_)
  have e := congrArg (List.map Prod.fst) hf.eq
  simpa [List.map_map, Function.comp_def] using e
theorem sizes_eof {σ : LSt} (h : LInv σ) : (decide (256 - (σ.used : Int) = 0) != decide (sizesTo σ.used 6 = [])) = false := by
  have hu := (linv_bounds h).used
  have e : (256 - (σ.used : Int) = 0) ↔ sizesTo σ.used 6 = [] := by
    have z := linv_eof h
    have y : sizesTo σ.used 6 = [] ↔ sizesOf σ.used = [] := by
      show (sizesOf σ.used).map (fun q : Nat => (q : Int)) = [] ↔ _
      rw [List.map_eq_nil_iff]
    rw [y, z]; omega
  rw [decide_eq_decide.mpr e, bne_self_eq_false]
theorem strOk_named {u : Nat} : ∀ x ∈ (sizesTo u 6).map namedK, PyData.strOk x = true := by
  intro x hx
  obtain ⟨z, hz, rfl⟩ := List.mem_map.mp hx
  unfold sizesTo at hz
  obtain ⟨k, hk, rfl⟩ := List.mem_map.mp hz
  have hk' := List.mem_range.mp (List.mem_filter.mp hk).1
  have q : ∀ k ∈ [0, 1, 2, 3, 4, 5], PyData.strOk (namedK ((k : Nat) : Int)) = true := by decide +kernel
  exact q k (by simp; omega)
theorem sizesTo_mem {u : Nat} {z : Int} (h : z ∈ sizesTo u 6) : 0 ≤ z ∧ z ≤ 5 := by
  unfold sizesTo at h
  obtain ⟨k, hk, rfl⟩ := List.mem_map.mp h
  have hk' := List.mem_range.mp (List.mem_filter.mp hk).1
  omega
theorem sizesTo_len (u : Nat) : (sizesTo u 6).length ≤ 6 := by
  unfold sizesTo
  rw [List.length_map]
  exact Nat.le_trans (List.length_filter_le _ _) (by simp)
theorem fmod_two (k : Nat) : Int.fmod ((k : Nat) : Int) 2 = ((k % 2 : Nat) : Int) := by
  rw [Int.fmod_eq_emod_of_nonneg _ (by decide)]; omega
theorem odd_two (k : Nat) : ((k % 2 : Nat) : Int) = 0 ∨ ((k % 2 : Nat) : Int) = 1 := by omega
theorem filter_take_snoc {ws : List Str} {i k : Nat} {z : Str} {ys : List Value} {t : Tok} (h : ws[i]? = some z) (hb : z.length = k) (hy : StrsAre ys ((ws.take i).filter fun w => w.length = k)) : StrsAre (ys ++ [Value.str z t]) ((ws.take (i + 1)).filter fun w => w.length = k) := by
  rw [List.take_add_one, h, Option.toList_some, List.filter_append]
  have : [z].filter (fun w => decide (w.length = k)) = [z] := by simp [hb]
  rw [this]
  exact kct_snoc hy
theorem filter_take_skip {ws : List Str} {i k : Nat} {z : Str} {ys : List Value} (h : ws[i]? = some z) (hb : z.length ≠ k) (hy : StrsAre ys ((ws.take i).filter fun w => w.length = k)) : StrsAre ys ((ws.take (i + 1)).filter fun w => w.length = k) := by
  rw [List.take_add_one, h, Option.toList_some, List.filter_append]
  have : [z].filter (fun w => decide (w.length = k)) = [] := by simp [hb]
  rw [this, List.append_nil]
  exact hy
theorem len_eq_of {z : Str} {k : Nat} (h : (((z.length : Nat) : Int) == ((k : Nat) : Int)) = true) : z.length = k := by
  have := beq_iff_eq.mp h; omega
theorem len_ne_of {z : Str} {k : Nat} (h : (((z.length : Nat) : Int) == ((k : Nat) : Int)) = false) : z.length ≠ k := by
  have := beq_eq_false_iff_ne.mp h; omega
theorem eq_str_self {prog : Program} {w : World} {A : Around} {E : Value → Shared → Prop} {s : Shared} {x : Str} {t u : Tok} {Q : Value → Shared → Prop} (h : Q (.bool true) s) : wpAny (model prog w) A (compareOp .Eq (.str x t) (.str x u)) Q E s :=
  eq_str (by rw [beq_self_eq_true]; exact h)
theorem eq_str_ne {prog : Program} {w : World} {A : Around} {E : Value → Shared → Prop} {s : Shared} {x y : Str} {t u : Tok} {Q : Value → Shared → Prop} (hne : x ≠ y) (h : Q (.bool false) s) : wpAny (model prog w) A (compareOp .Eq (.str x t) (.str y u)) Q E s :=
  eq_str (by rw [beq_eq_false_iff_ne.mpr hne]; exact h)
theorem word_dots {w : Str} (h : WordOk w) : ∀ c ∈ w.cps, c ≠ 46 ∧ c < 128 := by
  intro c hc
  rcases h.2 c hc with rfl | rfl <;> decide
theorem SD.st4 {U I : Addr} {o' o1 o2 o3 o4 : Obj} {DA : Addr} {oDA : Obj} {n n' : Ledger} {vs : List Value} {ps : List (Int × Int)} (S : SD U I o' o1 o2 o3 o4 DA oDA n vs ps) {o : Obj} {v : Option Value} (hda : NC oDA) (hk : ∀ p ∈ n, p.1 ≠ U + 1 + 1 + 1 + 1 → p ∈ n') (hnc : ∀ p ∈ n, NC p.2 → p ∈ n') (hc : (U + 1 + 1 + 1 + 1, o) ∈ n') (hd : o.data = .cell v) : SD U I o' o1 o2 o3 o DA oDA n' vs ps :=
  ⟨hk _ S.it (Ne.symm S.i4), S.ci, S.ak.nc (.of_nc hnc), hnc _ S.da hda, hk _ S.u1 (by show (_ : Nat) ≠ _; omega), hk _ S.u2 (by show (_ : Nat) ≠ _; omega), hk _ S.u3 (by show (_ : Nat) ≠ _; omega), hc, S.c1, S.c2, S.c3, ⟨v, hd⟩, S.i1, S.i2, S.i3, S.i4⟩
theorem eof_not {u : Nat} (h : u ≤ 256) : (decide (u = 256) != decide (256 - (u : Int) = 0)) = false := by
  have e : (u = 256) ↔ (256 - (u : Int) = 0) := by omega
  rw [decide_eq_decide.mpr e, bne_self_eq_false]
theorem free_words {kvs : List (Str × Str)} {fs : List (Nat × Str)} (H : FreeIs kvs fs) : kvs.map (·.2) = fs.map (·.2) := by
  have e := congrArg (List.map Prod.snd) H.eq
  simpa [List.map_map, Function.comp_def] using e
theorem strs_cat : ∀ {vs ws : List Value} {ns ms : List Str}, StrsAre vs ns → StrsAre ws ms → StrsAre (vs ++ ws) (ns ++ ms)
  | _, _, _, _, .nil, h => h
  | _, _, _, _, .cons x t r, h => .cons x t (strs_cat r h)

-- NEEDS: p00_head p02_ledger p03_tells
theorem ks_canLayAll0 : ∀ ss : List Str, (∀ x ∈ ss, PyData.strOk x = true) → PyData.canLayAll0 (ss.map PyData.str) = true
  | [], _ => rfl
  | x :: r, h => by simp [PyData.canLayAll0, PyData.canLay0, h x (.head _), ks_canLayAll0 r fun y hy => h y (.tail _ hy)]
theorem ks_depthAll : ∀ ss : List Str, PyData.depthAll (ss.map PyData.str) = 0
  | [] => rfl
  | _ :: r => by simp [PyData.depthAll, PyData.depth, ks_depthAll r]
theorem ks_shaped (ss : List Str) (h : ∀ x ∈ ss, PyData.strOk x = true) : SeqAt.shaped (.list (ss.map PyData.str)) = true := by
  simp [SeqAt.shaped, PyData.canLay0, PyData.depth, ks_canLayAll0 ss h, ks_depthAll]
theorem ks_sameAll : ∀ ns ms : List Str, PySem.Spec.sameAll (ns.map PyData.str) (ms.map PyData.str) = decide (ns = ms)
  | [], [] => by simp [PySem.Spec.sameAll]
  | [], _ :: _ => by simp [PySem.Spec.sameAll]
  | _ :: _, [] => by simp [PySem.Spec.sameAll]
  | a :: r, b :: t => by
    simp only [List.map_cons, PySem.Spec.sameAll, PySem.Spec.same, ks_sameAll r t]
    by_cases h : a = b <;> by_cases h' : r = t <;> simp [h, h']
theorem ks_same (ns ms : List Str) : PySem.Spec.same (.list (ns.map PyData.str)) (.list (ms.map PyData.str)) = decide (ns = ms) := by
  simp only [PySem.Spec.same]; exact ks_sameAll ns ms
theorem ks_carried : ∀ {vs : List Value} {ss : List Str}, StrsAre vs ss → CarriedAll vs (ss.map PyData.str)
  | _, _, .nil => .nil
  | _, _, .cons _ t r => .cons (.str _ t) (ks_carried r)
section
variable {prog : Program} {w : World} {A : Around} {E : Value → Shared → Prop} {s : Shared} {a b : Addr} {xs ys : List Value} {ns ms : List Str} {Q : Value → Shared → Prop}
theorem ks_eq (ha : s.heap.IsList a xs.toArray) (hb : s.heap.IsList b ys.toArray) (hi : StrsAre xs ns) (hj : StrsAre ys ms) (hn : ∀ x ∈ ns, PyData.strOk x = true) (hm : ∀ x ∈ ms, PyData.strOk x = true) (hu : A.units + 64 < cLine) (h : Q (.bool (decide (ns = ms))) s) :
    wpAny (model prog w) A (compareOp .Eq (.ref a) (.ref b)) Q E s :=
  eq_dataH_same (reads_newData ha (ks_carried hi)) (reads_newData hb (ks_carried hj)) (ks_shaped _ hn) (ks_shaped _ hm) hu (SeqAt.noMix_of_shape (.list .str) rfl _ _ (list_map_has fun _ => rfl) (list_map_has fun _ => rfl)) (by rw [ks_same]; exact h)
theorem ks_ne (ha : s.heap.IsList a xs.toArray) (hb : s.heap.IsList b ys.toArray) (hi : StrsAre xs ns) (hj : StrsAre ys ms) (hn : ∀ x ∈ ns, PyData.strOk x = true) (hm : ∀ x ∈ ms, PyData.strOk x = true) (hu : A.units + 64 < cLine) (h : Q (.bool (!decide (ns = ms))) s) :
    wpAny (model prog w) A (compareOp .NotEq (.ref a) (.ref b)) Q E s :=
  ne_dataH_same (reads_newData ha (ks_carried hi)) (reads_newData hb (ks_carried hj)) (ks_shaped _ hn) (ks_shaped _ hm) hu (SeqAt.noMix_of_shape (.list .str) rfl _ _ (list_map_has fun _ => rfl) (list_map_has fun _ => rfl)) (by rw [ks_same]; exact h)
end
set_option maxHeartbeats 0 in
theorem isnonterm_tells {prog : Program} {w : World} {p : Program} {loose : List Str} {mean : ExcName → Option Value} {mg mb : Str → Option Value} {x : Int} {t : Tok} {news : Ledger} :
    Tells prog w p loose mean mg mb 4 40 (.ref 228) [.int x t] [] news (fun r news' => news' = news ∧ r = .bool (decide (x ≥ 256))) := by
  intro dp un gd cn cs a ccd cl outer A₀ base h₀ L m s Q E B F X N T hk hd hu hret
  walk_at "m enter"
  k_steps
  exact hret _ _ _ _ ⟨rfl, rfl⟩ (by k_asm) (by k_asm)
set_option maxHeartbeats 0 in
theorem isterm_tells {prog : Program} {w : World} {p : Program} {loose : List Str} {mean : ExcName → Option Value} {mg mb : Str → Option Value} {x : Int} {t : Tok} {news : Ledger} :
    Tells prog w p loose mean mg mb 4 40 (.ref 221) [.int x t] [] news (fun r news' => news' = news ∧ r = .bool (decide (x < 256))) := by
  intro dp un gd cn cs a ccd cl outer A₀ base h₀ L m s Q E B F X N T hk hd hu hret
  walk_at "m enter"
  k_steps
  exact hret _ _ _ _ ⟨rfl, rfl⟩ (by k_asm) (by k_asm)
set_option maxHeartbeats 0 in
theorem iseof_tells {prog : Program} {w : World} {p : Program} {loose : List Str} {mean : ExcName → Option Value} {mg mb : Str → Option Value} {x : Int} {t : Tok} {news : Ledger} :
    Tells prog w p loose mean mg mb 4 40 (.ref 235) [.int x t] [] news (fun r news' => news' = news ∧ r = .bool (decide (x = 0))) := by
  intro dp un gd cn cs a ccd cl outer A₀ base h₀ L m s Q E B F X N T hk hd hu hret
  walk_at "m enter"
  k_steps
  exact hret _ _ _ _ ⟨rfl, rfl⟩ (by k_asm) (by k_asm)
theorem ks_ne_same {prog : Program} {w : World} {A : Around} {E : Value → Shared → Prop} {s : Shared} {a b : Addr} {xs ys : List Value} {ns ms : List Str} {Q : Value → Shared → Prop} (e : ns = ms) (ha : s.heap.IsList a xs.toArray) (hb : s.heap.IsList b ys.toArray) (hi : StrsAre xs ns) (hj : StrsAre ys ms) (hm : ∀ x ∈ ms, PyData.strOk x = true) (hu : A.units + 64 < cLine) (h : Q (.bool false) s) :
    wpAny (model prog w) A (compareOp .NotEq (.ref a) (.ref b)) Q E s := by
  subst e
  exact ks_ne ha hb hi hj hm hm hu (by rw [decide_eq_true rfl]; exact h)
theorem post_true (ns : List Int) : PySem.Challenge.rw_ta0063_01.row.claim.post [ofPy (PyData.list (List.map PyData.int ns))] (WData.bool (true == true)) [ofPy (PyData.list (List.map PyData.int ns))] = true := by
  kernel_rfl

-- NEEDS: p00_head p02_ledger p02b_loops p02c_comps p02d_setall p03_tells p05_get p06_name p07_first p08_taken p09_spelled p13_set p14_add p16_asked p21_new p20_plain p22_state p23_small p10_keys p11_all p15a_free p15_served p19a_seg p19b_gen p19c_for p19d_strip p19e_check p17_ellipsis p18_text
section
local macro_rules | `(tactic| k_in) => `(tactic| first | with_reducible assumption | exact Frag.In.keeps (by k_asm) (Fr.keep (by k_asm)))
local macro_rules | `(tactic| walk_at "m wipe") => `(tactic| (
  repeat ((rename _ ∧ AllLt _ _ => x9); clear x9)
  repeat ((rename (_ < _) ∧ _ => x9); clear x9)
  repeat ((rename (∀ p : Addr × Obj, p ∈ _ → p.1 < _) => x9); clear x9)
  repeat ((rename List.length (List.flatten _) = _ => x9); clear x9)
  repeat ((rename Array.size _ = _ => x9); clear x9)
  repeat ((rename (32 : Int) < 0 → _ => x9); clear x9)
  repeat ((rename (0 : Int) ≤ 32 → _ => x9); clear x9)
  repeat ((rename StrsAre _ st0.words => x9); clear x9)
  repeat ((rename FreeIs _ st0.fs => x9); clear x9)))
local macro_rules | `(tactic| walk_at "exec For Tuple Call cons nil") => `(tactic| (k_here; refine Hold.out ?_))
local macro_rules | `(tactic| walk_at "call ref") => `(tactic| (k_here; refine Hold.out ?_))
local macro_rules | `(tactic| walk_at "call ref") => `(tactic| (k_here; (with_reducible show wpAny _ _ (call (Value.ref 228) _ _) _ _ _); k_dflt (refine' Tells.use ?k1 ?k2 ?k3 ?k4 ?k5 ?kK isnonterm_tells ?kd ?ku ?_; walk_at "m sides"; (intro r' n' h' tk' hP' F' N'; obtain ⟨e1', e2'⟩ := hP'; subst e2'; replace e1' := Eq.symm e1'; subst e1'); walk_at "m tail")))
local macro_rules | `(tactic| walk_at "call ref") => `(tactic| (k_here; (with_reducible show wpAny _ _ (call (Value.ref 221) _ _) _ _ _); k_dflt (refine' Tells.use ?k1 ?k2 ?k3 ?k4 ?k5 ?kK isterm_tells ?kd ?ku ?_; walk_at "m sides"; (intro r' n' h' tk' hP' F' N'; obtain ⟨e1', e2'⟩ := hP'; subst e2'; replace e1' := Eq.symm e1'; subst e1'); walk_at "m tail")))
local macro_rules | `(tactic| walk_at "call ref") => `(tactic| (k_here; (with_reducible show wpAny _ _ (call (Value.ref 235) _ _) _ _ _); k_dflt (refine' Tells.use ?k1 ?k2 ?k3 ?k4 ?k5 ?kK iseof_tells ?kd ?ku ?_; walk_at "m sides"; (intro r' n' h' tk' hP' F' N'; obtain ⟨e1', e2'⟩ := hP'; subst e2'; replace e1' := Eq.symm e1'; subst e1'); walk_at "m tail")))
local macro_rules | `(tactic| walk_at "eval Name") => `(tactic| (k_here; name_kind "cell"; k_dflt (refine' nameX_C ?N ?c ?m ?d ?_ ?a ?b; (case a => rfl); (case b => kernel_rfl); (case N => k_asm); (case c => rfl); (case m => k_mem); (case d => k_asm); k_whole)))
local macro_rules | `(tactic| walk_at "compareOp Eq str str") => `(tactic| (k_here; refine Hold.out ?_))
local macro_rules | `(tactic| walk_at "binaryOp Add ref ref") => `(tactic| (k_here; refine Hold.out ?_))
local macro_rules | `(tactic| walk_at "compareOp NotEq str str") => `(tactic| (k_here; refine Hold.out ?_))
local macro_rules | `(tactic| walk_at "ite") => `(tactic| (k_here; (with_reducible show (if ((_ == _) : Bool) = true then _ else _)); refine Hold.out ?_))
local macro_rules | `(tactic| walk_at "eval ListComp") => `(tactic| (k_here; (with_reducible show wpAny _ _ (eval (Expr.ListComp _ [⟨_, _, _ :: _, _⟩] _ _) _) _ _ _); k_dflt (refine LCt.ListComp_T (F₀ := by k_asm) (by with_unfolding_all rfl) (by decide) (by rfl) (by decide) (by rfl) ?_)))
local macro_rules | `(tactic| walk_at "eval ListComp") => `(tactic| (k_here; (with_reducible show wpAny _ _ (eval (Expr.ListComp _ [⟨_, _, [], _⟩] _ _) _) _ _ _); k_dflt (refine LCg.ListComp_U (F₀ := by k_asm) (by with_unfolding_all rfl) (by decide) (by rfl) (by decide) (by rfl) ?_)))
local macro_rules | `(tactic| walk_at "exec For Name Call cons nil") => `(tactic| (k_here; refine Hold.out ?_))
local macro_rules | `(tactic| walk_at "exec For Name Name cons nil") => `(tactic| (k_here; refine Hold.out ?_))
local macro_rules | `(tactic| walk_at "call builtin:str.join") => `(tactic| (k_here; refine Hold.out ?_))
local macro_rules | `(tactic| walk_at "call builtin:sorted") => `(tactic| (k_here; refine Hold.out ?_))
local macro_rules | `(tactic| walk_at "call builtin:list.append") => `(tactic| (k_here; refine Hold.out ?_))
local macro_rules | `(tactic| walk_at "compareOp Eq ref") => `(tactic| (k_here; refine Hold.out ?_))
local macro_rules | `(tactic| walk_at "compareOp Eq ref ref") => `(tactic| (k_here; refine Hold.out ?_))
local macro_rules | `(tactic| walk_at "compareOp NotEq ref ref") => `(tactic| (k_here; refine Hold.out ?_))
local macro_rules | `(tactic| walk_at "storeName") => `(tactic| (k_here; k_dflt (refine holdStore (by rfl) ?_)))
set_option maxHeartbeats 8000000 in
theorem try_walk : PySem.Challenge.rw_ta0063_01.Holds := by
  refine Mine.hd.2 ?_
  delta Mine.hd
  k_fill
  intro w s₀ s₁ mg mb G Y fa o pm cd doc dV kV ho hd hcd hD hmg hg args vals as hpre hlay hrd hwl hlo
  have KX := kIn_of Y
  have X := (Ground.X G).1
  have V := (Ground.X G).2
  try w_nolog (first | (have GL := glob_more (Ground.glob G (by decide +kernel) (by decide +kernel)) V) | (have GL := glob_more (Ground.glob G (by decide +kernel)) V))
  refine Ground.open G ?_
  intro T B D TE TW
  try (refine guard_noD D (by decide +kernel) ?_; clear D)
  obtain ⟨_, _, M⟩ := bmod_of_top T
  have TA := at_of_top T
  try (obtain ⟨_, _, he, B0⟩ := based_of_top T rfl hmg ho hd; have he' : cd = _ := he; subst he'; clear he)
  clear hmg
  wrow_args hpre hlay hrd hwl hlo
  all_goals (
    first | refine callC_kw (enter_call ?_) | refine enter_call ?_ | refine callC_kw (enter_callW ?_) | refine enter_callW ?_ | w_how
    w_top on
    have K0 := below_caller (Top.heap T)
    w_call any ho hd hcd hD T F
    clear hd TA
    k_drop
    skip)
  clear hcd
  k_fold
  (rename Fr _ _ _ _ => F₀); (rename List Int => ns); (rename List Value => vs); (rename IntsAre _ _ => hI); (rename Heap.IsList _ _ _ => hL)
  obtain ⟨m₁, hm₁, F₁⟩ : ∃ m₁ : Str → Option Value, m₁ (Str.ofString "script") = some (.ref _) ∧ Fr _ _ _ m₁ := ⟨_, rfl, F₀⟩
  clear F₀
  (rename _ = Data.cell _ => e1); revert e1; (rename _ = Data.cell _ => e1); revert e1; (rename _ = Data.cell _ => e1); revert e1; (rename _ = Data.cell _ => e1); revert e1
  intro e4 e3 e2 e1
  have c4 := e4.trans (congrArg Data.cell (show _ = (none : Option Value) from rfl))
  have c3 := e3.trans (congrArg Data.cell (show _ = (none : Option Value) from rfl))
  have c2 := e2.trans (congrArg Data.cell (show _ = (none : Option Value) from rfl))
  have c1 := e1.trans (congrArg Data.cell (show _ = (none : Option Value) from rfl))
  clear e1 e2 e3 e4 hD
  (rename CellsAre _ _ _ => e1); clear e1
  have p0 := okB_name (x := Str.ofString "free-0") (by decide +kernel)
  have p1 : Plain (Str.ofString "free-0") := p0.2
  have p2 : Plain (Str.ofString "") := plain_of (by decide +kernel)
  have p3 : (Str.ofString "free-0").length ≤ sizeLine := by rw [sizeLine_eq]; decide +kernel
  have p4 : (Str.ofString "").length ≤ sizeLine := by rw [sizeLine_eq]; decide +kernel
  k_steps
  refine comp_start ?_
  refine' Tells.use ?k1 ?k2 ?k3 ?k4 ?k5 ?kK (new1_tells ?za ?zb p1 p2 p3 p4) ?kd ?ku ?_
  walk_at "m sides"
  case za => k_mem
  case zb => k_mem
  intro r n₁ h₁ tk₁ hP F₂ N₁
  obtain ⟨xf, dxf, rfl, hsub₁, Hf₁⟩ := hP
  have U1 : ∃ o, (s₁.heap.objs.size + 1, o) ∈ n₁ ∧ o.data = .cell none := ⟨_, (hsub₁ _ (by k_mem)).1, c1⟩
  have U2 : ∃ o, (s₁.heap.objs.size + 1 + 1, o) ∈ n₁ ∧ o.data = .cell none := ⟨_, (hsub₁ _ (by k_mem)).1, c2⟩
  have U3 : ∃ o, (s₁.heap.objs.size + 1 + 1 + 1, o) ∈ n₁ ∧ o.data = .cell none := ⟨_, (hsub₁ _ (by k_mem)).1, c3⟩
  have U4 : ∃ o, (s₁.heap.objs.size + 1 + 1 + 1 + 1, o) ∈ n₁ ∧ o.data = .cell none := ⟨_, (hsub₁ _ (by k_mem)).1, c4⟩
  clear hsub₁
  k_sweep
  k_steps
  refine comp_start ?_
  refine' Tells.use ?k1 ?k2 ?k3 ?k4 ?k5 ?kK new0_tells ?kd ?ku ?_
  walk_at "m sides"
  intro r n₂ h₂ tk₂ hP F₃ N₂
  obtain ⟨xg, dxg, lg, rfl, hsub₂, Hg₂⟩ := hP
  k_sweep
  k_steps
  refine comp_start ?_
  (rename Fr _ _ _ _ => F₄); (rename News _ _ _ _ => N₄)
  obtain ⟨o1, hU1, dU1⟩ := U1
  (rename ∀ p : Addr × Obj, p ∈ (_, _) :: n₂ → _ => hc2); (rename IntsAre _ _ => hZ)
  refine storeX_P F₄ N₄ rfl (.tail _ (.tail _ (hsub₂ _ hU1).1)) dU1 fun h₃ ou n₃ F₅ N₅ hk₃ hnc₃ hcu dcu => ?_
  have e32 : (List.replicate (Int.toNat 32) [(0 : Int)]).flatten = List.replicate 32 0 := by decide
  rw [e32] at hZ
  have G3 : ∀ p ∈ n₂, p.1 ≠ s₁.heap.objs.size + 1 → p ∈ n₃ := fun p hp hne => hk₃ p (.tail _ (.tail _ hp)) hne
  have G3' : ∀ p ∈ n₂, NC p.2 → p ∈ n₃ := fun p hp hn => hnc₃ p (.tail _ (.tail _ hp)) hn
  have C3 : ∃ lc vs k, lc = _ ∧ (∀ p ∈ n₂, p.1 ≠ lc) ∧ (lc, listOf vs.toArray k) ∈ n₃ ∧ IntsAre vs (List.replicate 32 0) := ⟨_, _, _, rfl, fun p hp => Nat.ne_of_lt (hc2 p (.tail _ hp)), hnc₃ _ (.head _) (by intro v e; cases e), hZ⟩
  have V2 : ∃ o, (s₁.heap.objs.size + 1 + 1, o) ∈ n₃ ∧ o.data = .cell none := U2.imp fun o h => ⟨G3 _ (hsub₂ _ h.1).1 (by show (_ : Nat) ≠ _; omega), h.2⟩
  have V3 : ∃ o, (s₁.heap.objs.size + 1 + 1 + 1, o) ∈ n₃ ∧ o.data = .cell none := U3.imp fun o h => ⟨G3 _ (hsub₂ _ h.1).1 (by show (_ : Nat) ≠ _; omega), h.2⟩
  have V4 : ∃ o, (s₁.heap.objs.size + 1 + 1 + 1 + 1, o) ∈ n₃ ∧ o.data = .cell none := U4.imp fun o h => ⟨G3 _ (hsub₂ _ h.1).1 (by show (_ : Nat) ≠ _; omega), h.2⟩
  have Hf₃ := (Hf₁.mono fun p hp => (hsub₂ p hp).1).nc (.of_nc G3')
  have Hg₃ := Hg₂.nc (.of_nc G3')
  have nfg : _ ≠ lg := (hsub₂ _ Hf₁.list).2.2.2
  have Lf₂ := (hsub₂ _ Hf₁.list).1
  have Lg₂ := Hg₂.list
  clear U2 U3 U4 hk₃ hnc₃ hsub₂ Hf₁ Hg₂ hZ hc2
  obtain ⟨lc, cvs, ck, hlc, hclt, hcm, hci⟩ := C3
  k_steps
  refine comp_start ?_
  (rename Fr _ _ _ _ => F₆); (rename News _ _ _ _ => N₆); (rename ∀ p : Addr × Obj, p ∈ n₃ → _ => hw3)
  obtain ⟨A, m₂, n₅, F₇, N₇, hs₅, ms, mf, mg', mw, mc, HD⟩ : ∃ (A : LAt) (m₂ : Str → Option Value) (n₅ : Ledger), Fr _ _ _ m₂ ∧ News _ _ _ n₅ ∧ (∀ p ∈ n₃, p ∈ n₅) ∧ m₂ (Str.ofString "script") = some _ ∧ m₂ (Str.ofString "free") = some (.ref A.xf) ∧ m₂ (Str.ofString "given") = some (.ref A.xg) ∧ m₂ (Str.ofString "words") = some (.ref A.lw) ∧ m₂ (Str.ofString "cells") = some (.ref lc) ∧ LD w.params n₅ A lc st0 :=
    ⟨⟨xf, dxf, _, xg, dxg, lg, _⟩, _, _, F₆, N₆, fun p hp => .tail _ hp, hm₁, rfl, rfl, rfl, by rw [hlc]; rfl,
      ⟨_, _, _, Hf₃.mono fun p hp => .tail _ hp, ⟨by decide +kernel, by intro kv h; rw [List.mem_singleton.mp h]; unfold Short; decide +kernel, by intro p h; rw [List.mem_singleton.mp h]; decide⟩⟩,
      ⟨_, _, Hg₃.mono fun p hp => .tail _ hp⟩, ⟨[], 0, .head _, .nil⟩, ⟨_, _, .tail _ hcm, hci⟩, nfg, Nat.ne_of_lt (hw3 _ Hf₃.list), Nat.ne_of_lt (hw3 _ Hg₃.list), (hclt _ Lf₂).symm, (hclt _ Lg₂).symm, Nat.ne_of_lt (hw3 _ hcm)⟩
  clear F₆ N₆ Hf₃ Hg₃ nfg Lf₂ Lg₂ hclt hcm hci hw3 G3 G3'
  have u1 := hs₅ _ hcu
  replace V2 : ∃ o, (s₁.heap.objs.size + 1 + 1, o) ∈ n₅ ∧ o.data = .cell none := V2.imp fun o h => ⟨hs₅ _ h.1, h.2⟩
  replace V3 : ∃ o, (s₁.heap.objs.size + 1 + 1 + 1, o) ∈ n₅ ∧ o.data = .cell none := V3.imp fun o h => ⟨hs₅ _ h.1, h.2⟩
  replace V4 : ∃ o, (s₁.heap.objs.size + 1 + 1 + 1 + 1, o) ∈ n₅ ∧ o.data = .cell none := V4.imp fun o h => ⟨hs₅ _ h.1, h.2⟩
  clear hs₅ hcu
  with_unfolding_all refine' For_turns F₇ ?_
  k_steps
  all_goals (try k_data)
  refine comp_start ?_
  have h63 : ns.length ≤ 63 := by omega
  refine' asked_tells hI h63 trivial _ _ _ _ _ _ _ _ _ _ _ _ _ _ _ _ _ ?zB ?zF ?zX ?zN ?zT ?zk ?zd ?zu ?zb ?_
  case zB => k_asm
  case zF => k_asm
  case zX => k_asm
  case zN => k_asm
  case zT => k_asm
  case zk => exact rfl
  case zd => ktr_room
  case zu => ktr_units
  case zb => exact hL
  intro r n₆ h₆ tk₆ hP F₈ N₈
  obtain ⟨DA, qs, rfl, hDA, hsub₆, hAsk, hDAne⟩ := hP
  have HD₆ := HD.mono hsub₆
  replace u1 := hsub₆ _ u1
  obtain ⟨o2, v2, dv2⟩ := V2
  obtain ⟨o3, v3, dv3⟩ := V3
  obtain ⟨o4, v4, dv4⟩ := V4
  replace v2 := hsub₆ _ v2
  replace v3 := hsub₆ _ v3
  replace v4 := hsub₆ _ v4
  obtain ⟨_, _, _, hf5, _⟩ := HD.f
  obtain ⟨_, _, hg5⟩ := HD.g
  obtain ⟨_, _, hw5, _⟩ := HD.ws
  have d1 := (hDAne _ hf5.list).symm
  have d2 := (hDAne _ hg5.list).symm
  have d3 := (hDAne _ hw5).symm
  clear hDAne hf5 hg5 hw5 HD hsub₆ N₇ F₇
  k_steps
  (rename Fr _ _ _ _ => lF'); (rename News _ _ _ _ => lN')
  try clear p0 p1 p3 p4
  try clear c1 c2 c3 c4 hm₁ ms e32 hlc h63 dU1 hU1
  walk_at "m wipe"
  with_unfolding_all refine iter_listTurns (vs := qs) (by rfl) lF' lN' hDA (by rfl) (by rfl) (fun I l1 => ?_)
  clear lF' lN'
  refine items_ind (fun xs m' n' => ∃ vs' ps' σ lc, xs = vs'.map Itm.val ∧ LK w.params s₁.heap.objs.size A DA (listOf qs.toArray 0) m' n' vs' ps' σ lc ∧ ∀ p ∈ n', p.1 ≠ I) ?_ ?_ _ _ _ ?_
  · intro m' n' ⟨vs', ps', σ, lc, hxs, J, hoff⟩
    have hv0 : vs' = [] := by cases vs' with | nil => rfl | cons _ _ => cases hxs
    subst hv0
    have hp0 : ps' = [] := by have h := J.ak; cases h; rfl
    subst hp0
    clear hxs
    have hDN : NC (listOf qs.toArray 0) := by intro v e; cases e
    have hwne : σ.words ≠ [] := J.ne.elim id fun h => absurd h (by decide)
    have HI := J.inv
    have hB := linv_bounds HI
    have hwl : σ.words.length ≤ 10 := J.len
    refine ItemsRest.zero (fun h' tk' F' N' => ?_)
    k_steps
    all_goals (try k_data)
    refine comp_start ?_
    (rename Fr _ _ _ _ => F₂)
    with_unfolding_all refine' For_turns F₂ ?_
    k_steps
    all_goals (try k_data)
    (rename IsRange _ _ _ _ _ _ _ _ => hR); (rename Fr _ _ _ _ => lF'); (rename News _ _ _ _ => lN')
    with_unfolding_all refine iter_rangeTurns (n := 5) (by rfl) hR (by decide) (by decide) lF' lN' (fun I₂ l2 => ?_)
    clear lF' lN'
    refine items_ind (fun xs m'' n'' => (∃ i, i ≤ 5 ∧ xs = rangeItems 1 (5 - i) ((i + 1 : Nat) : Int)) ∧ LK w.params s₁.heap.objs.size A DA (listOf qs.toArray 0) m'' n'' [] [] σ lc ∧ ∀ p ∈ n'', p.1 ≠ I₂) ?_ ?_ _ _ _ ?_
    · intro m₂ n₂ ⟨_, K₂, off₂⟩
      clear off₂ hoff J
      obtain ⟨mf, mg', mw, mc, ⟨ou, tu, u1, du⟩, ⟨o2, v2, u2, d2'⟩, ⟨o3, v3, u3, d3'⟩, ⟨o4, v4, u4, d4'⟩, HD, hAsk, hok, _, hlen, hne, hda, d1, d2, d3⟩ := K₂
      obtain ⟨wvs, wk, wm, wS⟩ := id HD.ws
      have wl2 : wvs.length ≤ 10 := by rw [wS.length]; exact hwl
      refine ItemsRest.zero (fun h' tk' F' N' => ?_)
      k_steps
      all_goals (try k_data)
      (rename News _ _ _ _ => N₃)
      refine comp_start (join_listW (News.isList N₃ wm) wS (by decide +kernel) (join_room (fun y hy => Nat.le_trans (hB.wordOk y hy).1.1 (by decide)) (Nat.le_trans hwl (by decide))) ?_)
      intro t₉ k₉
      k_steps
      all_goals (try k_data)
      refine comp_start ?_
      (rename Fr _ _ _ _ => F₄); (rename News _ _ _ _ => N₄)
      refine storeX_P F₄ N₄ rfl u4 d4' fun h₅ o5 n₅ F₅ N₅ hk₅ hnc₅ c4 dc4 => ?_
      have HD₅ := HD.nc (.of_nc hnc₅)
      have K5 : Keeps n₂ n₅ := .of_nc hnc₅
      have hda₅ := K5.list hda
      have wm₅ := K5.list wm
      have u1₅ : (s₁.heap.objs.size + 1, ou) ∈ n₅ := hk₅ _ u1 (by show (_ : Nat) ≠ _; omega)
      have u2₅ : (s₁.heap.objs.size + 1 + 1, o2) ∈ n₅ := hk₅ _ u2 (by show (_ : Nat) ≠ _; omega)
      have u3₅ : (s₁.heap.objs.size + 1 + 1 + 1, o3) ∈ n₅ := hk₅ _ u3 (by show (_ : Nat) ≠ _; omega)
      clear hk₅ hnc₅ K5 HD hda wm u1 u2 u3 u4 N₄ F₄
      k_steps
      all_goals (try k_data)
      refine comp_start ?_
      (rename Fr _ _ _ _ => F₆)
      with_unfolding_all refine' For_turns F₆ ?_
      k_steps
      all_goals (try k_data)
      (rename Fr _ _ _ _ => lF'); (rename News _ _ _ _ => lN')
      with_unfolding_all refine iter_listTurns (vs := wvs) (by rfl) lF' lN' wm₅ (by rfl) (by rfl) (fun I₃ l3 => ?_)
      clear lF' lN'
      refine items_ind (fun xs m'' n'' => ∃ l₁ l₂ vs₂, σ.words = l₁ ++ l₂ ∧ xs = vs₂.map Itm.val ∧ StrsAre vs₂ l₂ ∧ LK w.params s₁.heap.objs.size A DA (listOf qs.toArray 0) m'' n'' [] [] σ lc ∧ (∃ o t, (s₁.heap.objs.size + 1 + 1 + 1 + 1, o) ∈ n'' ∧ o.data = .cell (some (.str (Txt.join (Str.ofString "") l₂) t))) ∧ (A.lw, listOf wvs.toArray wk) ∈ n'' ∧ ∀ p ∈ n'', p.1 ≠ I₃) ?_ ?_ _ _ _ ?_
      · intro m₆ n₆ ⟨l₁, l₂, vs₂, hw, hxs, hS₂, K₆, hr, hm, off₆⟩
        clear hr off₆ hS₂ hxs hw
        obtain ⟨mf, mg', mw, mc, ⟨ou, tu, u1, du⟩, _, _, _, HD, hAsk, hok, _, hlen, hne, hda, d1, d2, d3⟩ := K₆
        obtain ⟨fas, fk, fkvs, fH, fI⟩ := id HD.f
        obtain ⟨fx, ⟨ftk, fdx⟩, fl, fp⟩ := id fH
        have hw300 : ∀ x ∈ σ.words, x.length ≤ 300 := fun x hx => Nat.le_trans (hB.wordOk x hx).1.1 (by decide)
        refine ItemsRest.zero (fun h' tk' F' N' => ?_)
        k_steps
        all_goals (try k_data)
        refine comp_start ?_
        refine' Tells.use ?k1 ?k2 ?k3 ?k4 ?k5 ?kK (text_tells hm wS (Nat.le_trans hwl (by decide)) hw300) ?kd ?ku ?_
        walk_at "m sides"
        intro r n₇ h₇ tk₇ hP F₇ N₇
        obtain ⟨hs₇, tt, ss, hpm, hso, er⟩ := hP
        subst er
        have hm₇ := hs₇ _ hm
        have u1₇ := hs₇ _ u1
        have fH₇ := fH.mono hs₇
        have fx₇ := hs₇ _ fx
        have fdx₇ := hs₇ _ fdx
        have fl₇ := hs₇ _ fl
        clear hs₇ hm u1 fx fdx fl HD hda
        k_steps
        all_goals (try k_data)
        refine comp_start ?_
        have hssl : ss.length ≤ 20 := by rw [hpm.length_eq]; exact Nat.le_trans hwl (by decide)
        obtain ⟨x1, x2, x3, x4, x5, x6⟩ := text_plain (fun y hy => (hB.wordOk y (hpm.mem_iff.mp hy)).1) hssl
        refine' TellsG.use ?k1 ?k2 ?k3 ?k4 ?k5 ?kK (check_tells x1 x2 x3 x4 x5 x6) ?kd ?ku ?_
        walk_at "m sides"
        intro r n₈ h₈ tk₈ gs₈ hP hg₈ F₈ N₈
        obtain ⟨e8, y, hy, er⟩ := hP
        replace e8 := e8.symm
        subst e8
        rw [linv_check HI hwne hpm hso hy] at er
        subst er
        k_steps
        all_goals (try k_data)
        · exfalso
          (rename (_ != _) = true => hx)
          exact absurd (hx.symm.trans (eof_not hB.used)) (by decide)
        refine comp_start ?_
        have hvz : (fas.map Value.ref).toArray.size ≤ sizeLine := by
          rw [List.size_toArray, List.length_map, fp.length, fI.length, sizeLine_eq]
          exact Nat.le_trans hB.free (by decide)
        refine' Tells.use ?k1 ?k2 ?k3 ?k4 ?k5 ?kK (values_tells fH₇ hvz) ?kd ?ku ?_
        walk_at "m sides"
        intro r n₉ h₉ tk₉ hP F₉ N₉
        obtain ⟨D9, ys9, er, e9, hS9, hD9⟩ := hP
        subst er
        subst e9
        rw [free_words fI] at hS9
        have yl9 : ys9.length ≤ 6 := by rw [hS9.length, List.length_map]; exact hB.free
        k_steps
        all_goals (try k_data)
        (rename Fr _ _ _ _ => F₁₀); (rename News _ _ _ _ => N₁₀)
        refine comp_start (add_listsL F₁₀ N₁₀ (News.isList N₁₀ (.tail _ hm₇)) (News.isList N₁₀ (.head _)) (by rw [sizeLine_eq]; exact Nat.le_trans (Nat.add_le_add wl2 yl9) (by decide)) fun D10 h₁₀ F₁₁ N₁₁ l10 => ?_)
        have hS10 := strs_cat wS hS9
        have hall : ∀ x ∈ σ.words ++ σ.fs.map (·.2), WordOk x := by
          intro x hx
          rcases List.mem_append.mp hx with hx | hx
          · exact (hB.wordOk x hx).1
          · obtain ⟨p, hp, rfl⟩ := List.mem_map.mp hx
            exact (hB.freeOk p hp).1
        have hal : (σ.words ++ σ.fs.map (·.2)).length ≤ 20 := by
          rw [List.length_append, List.length_map]
          exact Nat.le_trans (Nat.add_le_add hwl hB.free) (by decide)
        k_steps
        all_goals (try k_data)
        refine comp_start ?_
        refine' Tells.use ?k1 ?k2 ?k3 ?k4 ?k5 ?kK (text_tells (.head _) hS10 hal (fun x hx => Nat.le_trans (hall x hx).1 (by decide))) ?kd ?ku ?_
        walk_at "m sides"
        intro r n_a h_a tk_a hP F_a N_a
        obtain ⟨hs_a, tt_a, ss_a, hpm_a, hso_a, er⟩ := hP
        subst er
        k_steps
        all_goals (try k_data)
        refine comp_start ?_
        obtain ⟨z1, z2, z3, z4, z5, z6⟩ := text_plain (fun y hy => hall y (hpm_a.mem_iff.mp hy)) (by rw [hpm_a.length_eq]; exact hal)
        refine' TellsG.use ?k1 ?k2 ?k3 ?k4 ?k5 ?kK (check_tells z1 z2 z3 z4 z5 z6) ?kd ?ku ?_
        walk_at "m sides"
        intro r n_b h_b tk_b gs_b hP hg_b F_b N_b
        obtain ⟨e8, y2, hy2, er⟩ := hP
        replace e8 := e8.symm
        subst e8
        rw [linv_check_all HI hwne hpm_a hso_a hy2] at er
        subst er
        k_steps
        all_goals (try k_data)
        refine ⟨.inl ⟨_, _, [], rfl, fun _ => rfl, ReadsW.bool _, ?zhp, fun _ => ⟨List.nodup_nil, fun _ hm => (nomatch hm)⟩⟩, .of_keep fun b o e => F_b.keep b o e, rfl, hg_b (hg₈ (.of_eq hg))⟩
        exact post_true ns
      · intro a₂ r₂ m₆ n₆ ⟨l₁, l₂, vs₂, hw, hxs, hS₂, K₆, ⟨o4, tr, u4, du4⟩, wm₆, off₆⟩ IH
        cases hS₂ with
        | nil => cases hxs
        | @cons z₁ t₁ vs₃ l₃ hS₃ =>
        cases hxs
        obtain ⟨mf, mg', mw, mc, ⟨ou, tu, u1, du⟩, ⟨o2, v2, u2, d2'⟩, ⟨o3, v3, u3, d3'⟩, _, HD, hAsk, hok, _, hlen, hne, hda, d1, d2, d3⟩ := K₆
        refine ItemsRest.val (fun h' tk' F' => ?_)
        refine AllObj.cons (fun o' hc' => ?_)
        refine AllObj.nil (fun N' => ?_)
        simp only [List.cons_append, List.nil_append] at N'
        have S0 : SD s₁.heap.objs.size I₃ o' ou o2 o3 o4 DA (listOf qs.toArray 0) ((I₃, o') :: n₆) [] [] := ⟨.head _, .inl hc', .nil, .tail _ hda, .tail _ u1, .tail _ u2, .tail _ u3, .tail _ u4, ⟨_, du⟩, ⟨_, d2'⟩, ⟨_, d3'⟩, ⟨_, du4⟩, off₆ _ u1, off₆ _ u2, off₆ _ u3, off₆ _ u4⟩
        have HD₁ := HD.mono (fun p hp => .tail (I₃, o') hp)
        clear HD hda u1 u2 u3 u4 off₆ hAsk
        k_steps
        all_goals (try k_data)
        refine comp_start ?_
        (rename Fr _ _ _ _ => F₃); (rename News _ _ _ _ => N₃)
        refine storeX_P F₃ N₃ rfl S0.u3 d3' fun h₃ o3' n₇ F₄ N₄ hk₃ hnc₃ c3 dc3 => ?_
        have SS₃ := S0.st3 hDN hk₃ hnc₃ c3 dc3
        have HD₃ := HD₁.nc (.of_nc hnc₃)
        have wm₇ := (Keeps.of_nc hnc₃).list (List.Mem.tail _ wm₆)
        have u4₇ := SS₃.u4
        clear hk₃ hnc₃ HD₁ N₃ F₃ S0 wm₆
        have hzw : z₁ ∈ σ.words := by rw [hw]; exact List.mem_append_right _ (.head _)
        have hz5 : z₁.length ≤ 5 := (hB.wordOk z₁ hzw).1.1
        have hrl : (Txt.join (Str.ofString "") (z₁ :: l₃)).length ≤ 50 := join_len (fun y hy => (hB.wordOk y (by rw [hw]; exact List.mem_append_right _ hy)).1.1) (by have e := congrArg List.length hw; rw [List.length_append] at e; omega)
        k_steps
        all_goals (try k_data)
        refine compT_same (fun j zs => zs = []) ?_ rfl ?_
        · intro j v zs I' oI C oC D m₄ h tk E' hj hz hv hC hx F' N' off ne
          obtain ⟨z, t, hz7, rfl⟩ := strs_item wS hv
          have hzm := List.mem_of_getElem? hz7
          have hzo := hB.wordOk z hzm
          have hzl : z.length ≤ 5 := hzo.1.1
          have hst := linv_read HI hw hzm
          k_steps
          all_goals (try k_data)
          refine comp_start ?_
          refine' Tells.use ?k1 ?k2 ?k3 ?k4 ?k5 ?kK (ell_tells (word_dots hzo.1) ?zh0 ?zh1 ?zh2) ?kd ?ku ?_
          walk_at "m sides"
          case zh0 => exact Nat.le_trans hzl (by decide)
          case zh1 => exact Nat.ne_of_gt hzo.2
          case zh2 => exact Nat.le_trans hrl (by decide)
          intro r n₉ h₉ tk₉ hP F₉ N₉
          obtain ⟨hs₉, er⟩ := hP
          have N₉' : News _ _ _ ((I', oI) :: (C, oC) :: (D, LCg.lst zs) :: n₇) := fun p hp => N₉ p (hs₉ p hp)
          clear N₉ hs₉
          rw [hst] at er
          by_cases hzz : z = z₁
          · rw [decide_eq_true hzz] at er
            subst er
            k_steps
            all_goals (try k_data)
            subst hzz
            refine comp_start (eq_str_self ?_)
            k_steps
            all_goals (try k_data)
            exact comp_end (by k_asm) (by k_asm) off (.inr ⟨_, wm₇, rfl, _, rfl⟩) ⟨rfl, hz⟩
          · rw [decide_eq_false hzz] at er
            subst er
            k_steps
            all_goals (try k_data)
            refine comp_start (eq_str_ne hzz ?_)
            k_steps
            all_goals (try k_data)
            exact comp_end (by k_asm) (by k_asm) off (.inr ⟨_, wm₇, rfl, _, rfl⟩) ⟨rfl, hz⟩
        · intro zs hz
          subst hz
          k_steps
          all_goals (try k_data)
          (rename News _ _ _ _ => N₈)
          refine comp_start (ks_ne_same rfl (News.isList N₈ (.tail _ (.head _))) (News.isList N₈ (.head _)) .nil .nil (fun _ h => nomatch h) (by ke_room) ?_)
          k_steps
          all_goals (try k_data)
          refine comp_start ?_
          (rename Fr _ _ _ _ => F₉); (rename News _ _ _ _ => N₉)
          refine storeX_P F₉ N₉ rfl (.tail _ (.tail _ u4₇)) du4 fun h₁₀ o4' n₁₀ F₁₀ N₁₀ hk₁₀ hnc₁₀ c4' dc4' => ?_
          have SS₁₀ := SS₃.st4 hDN (fun p hp hne => hk₁₀ p (.tail _ (.tail _ hp)) hne) (fun p hp hn => hnc₁₀ p (.tail _ (.tail _ hp)) hn) c4' dc4'
          have Kp : Keeps n₇ n₁₀ := .of_nc fun p hp hn => hnc₁₀ p (.tail _ (.tail _ hp)) hn
          have HD₁₀ := HD₃.nc Kp
          have wm₁₀ := Kp.list wm₇
          rw [join_slice] at dc4'
          clear hk₁₀ hnc₁₀ Kp
          k_steps
          all_goals (try k_data)
          (rename Fr _ _ _ _ => F₁₁)
          have KE : LK w.params s₁.heap.objs.size A DA (listOf qs.toArray 0) m₆ n₁₀ [] [] σ lc := ⟨mf, mg', mw, mc, ⟨_, _, SS₁₀.u1, du⟩, ⟨_, _, SS₁₀.u2, d2'⟩, ⟨_, _, SS₁₀.u3, dc3⟩, ⟨_, _, SS₁₀.u4, dc4'⟩, HD₁₀, .nil, hok, HI, hlen, hne, SS₁₀.da, d1, d2, d3⟩
          have KF := KE.off N₁₀ SS₁₀.it SS₁₀.ci SS₁₀.i1 SS₁₀.i2 SS₁₀.i3 SS₁₀.i4 rfl hDN
          have c1 : ∀ {q : Addr × Obj}, q ∈ n₁₀ → q.1 ≠ I₃ → q ∈ n₁₀.filter fun p => p.1 ≠ I₃ := fun hq hn => List.mem_filter.mpr ⟨hq, by simpa using hn⟩
          have wmf := (keeps_off N₁₀ SS₁₀.it SS₁₀.ci).list wm₁₀
          exact unr_end1 (news := n₁₀.filter fun p => p.1 ≠ I₃) F₁₁ (fun p hp => N₁₀ p (sub_off SS₁₀.it p hp)) off_off ⟨⟨wmf, trivial⟩, IH _ _ ⟨l₁ ++ [z₁], l₃, vs₃, by rw [hw, List.append_assoc]; rfl, rfl, hS₃, KF, ⟨_, _, c1 SS₁₀.u4 SS₁₀.i4, dc4'⟩, wmf, off_off⟩⟩
      · exact ⟨[], σ.words, wvs, rfl, rfl, wS, ⟨mf, mg', mw, mc, ⟨_, _, u1₅, du⟩, ⟨_, _, u2₅, d2'⟩, ⟨_, _, u3₅, d3'⟩, ⟨_, _, c4, dc4⟩, HD₅, .nil, hok, HI, hlen, hne, hda₅, d1, d2, d3⟩, ⟨_, _, c4, dc4⟩, wm₅, fun p hp => Nat.ne_of_lt (l3 p hp)⟩
    · intro a₂ r₂ m₂ n₂ ⟨⟨i, hi5, hxs⟩, K₂, off₂⟩ IH
      have hlt : i < 5 := by
        rcases Nat.lt_or_ge i 5 with h | h
        · exact h
        · rw [show 5 - i = 0 by omega] at hxs; cases hxs
      rw [show 5 - i = (5 - (i + 1)) + 1 by omega] at hxs
      injection hxs with ex1 ex2
      subst ex1
      obtain ⟨mf, mg', mw, mc, ⟨ou, tu, u1, du⟩, ⟨o2, v2, u2, d2'⟩, ⟨o3, v3, u3, d3'⟩, ⟨o4, v4, u4, d4'⟩, HD, hAsk, hok, _, hlen, hne, hda, d1, d2, d3⟩ := K₂
      refine ItemsRest.tok (fun t' h' tk' F' => ?_)
      refine AllObj.cons (fun o' hc' => ?_)
      refine AllObj.nil (fun N' => ?_)
      simp only [List.cons_append, List.nil_append] at N'
      have S0 : SD s₁.heap.objs.size I₂ o' ou o2 o3 o4 DA (listOf qs.toArray 0) ((I₂, o') :: n₂) [] [] := ⟨.head _, .inr hc', .nil, .tail _ hda, .tail _ u1, .tail _ u2, .tail _ u3, .tail _ u4, ⟨_, du⟩, ⟨_, d2'⟩, ⟨_, d3'⟩, ⟨_, d4'⟩, off₂ _ u1, off₂ _ u2, off₂ _ u3, off₂ _ u4⟩
      have HD₁ := HD.mono (fun p hp => .tail (I₂, o') hp)
      clear HD hda u1 u2 u3 u4 off₂ hAsk
      k_steps
      all_goals (try k_data)
      refine comp_start ?_
      (rename Fr _ _ _ _ => F₃); (rename News _ _ _ _ => N₃)
      refine storeX_P F₃ N₃ rfl S0.u2 d2' fun h₃ o2' n₃ F₄ N₄ hk₃ hnc₃ c2 dc2 => ?_
      have SS₃ := S0.st2 hDN hk₃ hnc₃ c2 dc2
      have HD₃ := HD₁.nc (.of_nc hnc₃)
      clear hk₃ hnc₃ HD₁ N₃ F₃ S0
      obtain ⟨wvs, wk, wm, wS⟩ := id HD₃.ws
      obtain ⟨gas, gk, gH⟩ := id HD₃.g
      obtain ⟨gx, ⟨gtk, gdx⟩, gl, gp⟩ := id gH
      k_steps
      all_goals (try k_data)
      refine comp_start ?_
      have hnm := of_name (k := i + 1) (by omega) (by omega) (odd_two (i + 1))
      refine' Tells.use ?k1 ?k2 ?k3 ?k4 ?k5 ?kK (name_tells ?zh0 (Int.natCast_nonneg (i + 1)) (Int.ofNat_le.mpr hlt) ?zh1) ?kd ?ku ?_
      walk_at "m sides"
      case zh0 => decide +kernel
      case zh1 => exact Nat.le_trans hnm.2.2.1 (by decide)
      intro r n₈ h₈ tk₈ hP F₁₃ N₁₄
      obtain ⟨e7, tn, hr7⟩ := hP
      rw [fmod_two] at hr7
      replace hr7 : r = .str (nameOf ofn ((i + 1 : Nat) : Int) ((((i + 1) % 2 : Nat)) : Int)) tn := hr7
      subst hr7
      replace e7 := e7.symm
      subst e7
      k_steps
      all_goals (try k_data)
      refine comp_start ?_
      have hgz : (gas.map Value.ref).toArray.size ≤ sizeLine := by
        rw [List.size_toArray, List.length_map, gp.length, hB.gvl, sizeLine_eq]
        exact Nat.le_trans hwl (by decide)
      refine' Tells.use ?k1 ?k2 ?k3 ?k4 ?k5 ?kK (getall_tells gH hnm.2.2.2 (fun kv hkv => Nat.le_trans (hB.gvs kv hkv).1 (by decide)) hgz) ?kd ?ku ?_
      walk_at "m sides"
      intro r n₉ h₉ tk₉ hP F₁₄ N₁₅
      obtain ⟨D9, ys9, er, e9, hS9, hD9⟩ := hP
      subst er
      subst e9
      have wl2 : wvs.length ≤ 10 := by rw [wS.length]; exact hwl
      k_steps
      all_goals (try k_data)
      refine compT_same (fun j zs => StrsAre zs ((σ.words.take j).filter fun w => w.length = i + 1)) ?_ .nil ?_
      · intro j v zs I' oI C oC D m₄ h tk E' hj hz hv hC hx F' N' off ne
        obtain ⟨z, t, hz7, rfl⟩ := strs_item wS hv
        have hzl : z.length ≤ 5 := (hB.wordOk z (List.mem_of_getElem? hz7)).1.1
        k_steps
        all_goals (try k_data)
        refine comp_start ?_
        refine split_bool (fun hb => ?_) (fun hb => ?_)
        · k_steps
          all_goals (try k_data)
          exact comp_end (by k_asm) (by k_asm) off (.inr ⟨_, .tail _ wm, rfl, _, rfl⟩) ⟨rfl, filter_take_snoc hz7 (len_eq_of hb) hz⟩
        · k_steps
          all_goals (try k_data)
          exact comp_end (by k_asm) (by k_asm) off (.inr ⟨_, .tail _ wm, rfl, _, rfl⟩) ⟨rfl, filter_take_skip hz7 (len_ne_of hb) hz⟩
      · intro zs hz
        have hz' : StrsAre zs (σ.words.filter fun w => w.length = i + 1) := by
          rw [show wvs.toArray.size = σ.words.length by rw [List.size_toArray, wS.length], List.take_length] at hz
          exact hz
        have zl : zs.length < 64 := by rw [hz'.length]; exact Nat.lt_of_le_of_lt (Nat.le_trans (List.length_filter_le _ _) hwl) (by decide)
        k_steps
        all_goals (try k_data)
        (rename Fr _ _ _ _ => F₉); (rename News _ _ _ _ => N₉)
        refine comp_start (sorted_N_strL F₉ N₉ (News.isList N₉ (.head _)) hz' zl fun Da h_a vsa ssa ea F_a N_a la hSa hpa hsa => ?_)
        have ea2 := linv_given HI (k := i + 1) (by omega) hlt hpa hsa
        have hok2 : ∀ x ∈ ssa, PyData.strOk x = true := fun x hx => strOk_word (hB.wordOk x (List.mem_filter.mp (hpa.mem_iff.mp hx)).1).1
        k_steps
        all_goals (try k_data)
        (rename News _ _ _ _ => N_b)
        refine comp_start (ks_ne_same ea2 (News.isList N_b (.tail _ (.tail _ (.head _)))) (News.isList N_b (.head _)) hS9 hSa hok2 (by ke_room) ?_)
        k_steps
        all_goals (try k_data)
        have KE : LK w.params s₁.heap.objs.size A DA (listOf qs.toArray 0) m₂ n₃ [] [] σ lc := ⟨mf, mg', mw, mc, ⟨_, _, SS₃.u1, du⟩, ⟨_, _, SS₃.u2, dc2⟩, ⟨_, _, SS₃.u3, d3'⟩, ⟨_, _, SS₃.u4, d4'⟩, HD₃, .nil, hok, HI, hlen, hne, SS₃.da, d1, d2, d3⟩
        have Nn₃ : News T.heap s₁.heap.objs.size h_a n₃ := fun p hp => N_b p (.tail _ (.tail _ (.tail _ hp)))
        have KF := KE.off Nn₃ SS₃.it SS₃.ci SS₃.i1 SS₃.i2 SS₃.i3 SS₃.i4 rfl hDN
        exact unr_end1 (news := n₃.filter fun p => p.1 ≠ I₂) F_a (fun p hp => Nn₃ p (sub_off SS₃.it p hp)) off_off ⟨trivial, IH _ _ ⟨⟨i + 1, hlt, by rw [ex2]; rfl⟩, KF, off_off⟩⟩
    · exact ⟨⟨0, Nat.zero_le _, rfl⟩, J.sub (fun p hp => hp) rfl rfl rfl rfl, fun p hp => Nat.ne_of_lt (l2 p hp)⟩
  · intro a' r' m' n' ⟨vs', ps', σ, lc, hxs, J, hoff⟩ IH
    obtain ⟨mf, mg', mw, mc, ⟨ou, tu, u1, du⟩, ⟨o2, v2, u2, d2'⟩, ⟨o3, v3, u3, d3'⟩, ⟨o4, v4, u4, d4'⟩, HD, hAsk, hok, HI, hlen, hne, hda, d1, d2, d3⟩ := J
    cases hAsk with
    | nil => cases hxs
    | @cons a₁ vs₁ p ps₁ t₁ t₂ n₁' hmem hrest =>
    cases hxs
    obtain ⟨k, k1, k5, hk1, hodd⟩ := hok p (.head _)
    obtain ⟨p1, p2⟩ := p
    dsimp only at hk1 hodd hmem
    subst hk1
    refine ItemsRest.val (fun h' tk' F' => ?_)
    refine AllObj.cons (fun o' hc' => ?_)
    refine AllObj.nil (fun N' => ?_)
    simp only [List.cons_append, List.nil_append] at N'
    have hB := linv_bounds HI
    refine turn_abs (P := TEnd w.params T.heap s₁.heap.objs.size s₁.heap.objs.size A DA (listOf qs.toArray 0) I o' { s₁ with heap := h', toks := tk' } vs₁ ps₁) ?zturn ?zpost
    case zpost =>
      intro f s' ⟨e, h₉, tk₉, m₉, n₉, σ₉, lc₉, e₉, F₉, N₉, off₉, J₉⟩
      subst e
      exact ⟨h₉, tk₉, m₉, n₉, e₉, F₉, N₉, fun p hp q hq => by rw [List.mem_singleton.mp hq]; exact off₉ p hp, ⟨J₉.da, trivial⟩, IH m₉ n₉ ⟨_, _, _, _, rfl, J₉, off₉⟩⟩
    clear IH
    (rename Value → Shared → Prop => ek); clear_value ek
    clear GL V M TE TW B G Y ho hg X
    have hDN : NC (listOf qs.toArray 0) := by intro v e; cases e
    have S0 : SD s₁.heap.objs.size I o' ou o2 o3 o4 DA (listOf qs.toArray 0) ((I, o') :: n') vs₁ ps₁ := ⟨.head _, .inl hc', hrest.mono fun p hp _ => .tail _ hp, .tail _ hda, .tail _ u1, .tail _ u2, .tail _ u3, .tail _ u4, ⟨_, du⟩, ⟨_, d2'⟩, ⟨_, d3'⟩, ⟨_, d4'⟩, hoff _ u1, hoff _ u2, hoff _ u3, hoff _ u4⟩
    have HD₁ := HD.mono (fun p hp => .tail (I, o') hp)
    clear HD hrest hda u1 u2 u3 u4 hoff
    refine turn_cut 7 (MID := TMid w.params T.heap s₁.heap.objs.size s₁.heap.objs.size A DA (listOf qs.toArray 0) I o' { s₁ with heap := h', toks := tk' } vs₁ ps₁) ?zmain (fun _ _ h => h.1) ?ztail
    case ztail =>
      simp only [List.drop_succ_cons, List.drop_zero]
      clear N' F' hne hlen hok HD₁ hmem du d2' d3' d4' mf mg' mw mc HI hB
      intro s' ⟨_, h₂, tk₂, m₃, n₃, σ₂, lc₂, e₂, F₂, N₂, hI₂, K₂⟩
      subst e₂
      have I1 := S0.i1
      have I2 := S0.i2
      have I3 := S0.i3
      have I4 := S0.i4
      clear S0
      obtain ⟨mf, mg', mw, mc, ⟨ou, tu, u1, du⟩, u2, u3, u4, HD, hAsk, hok, HI, hlen, hne, hda, d1, d2, d3⟩ := id K₂
      have hB := linv_bounds HI
      obtain ⟨fas, fk, fkvs, fH, fI⟩ := id HD.f
      obtain ⟨fx, ⟨ftk, fdx⟩, fl, fp⟩ := id fH
      k_steps
      all_goals (try k_data)
      refine compT_same (fun i ys => IntsAre ys (sizesTo σ₂.used i)) ?_ .nil ?_
      · intro i v ys I' oI C oC D m₄ h tk E' hi hy hv hC hx F' N' off ne
        obtain ⟨t, rfl⟩ := hv
        clear K₂ hAsk hok HI hlen hne hda d1 d2 d3 fH fI fx fdx fl fp u2 u3 u4 HD mf mg' mw mc I1 I2 I3 I4 k1 k5 hodd hDN hc'
        k_steps
        all_goals (try k_data)
        refine comp_start ?_
        refine split_bool (fun hb => ?_) (fun hb => ?_)
        · k_steps
          all_goals (try k_data)
          exact comp_end (by k_asm) (by k_asm) off trivial ⟨rfl, sizes_snoc hB.used hi hb hy⟩
        · k_steps
          all_goals (try k_data)
          exact comp_end (by k_asm) (by k_asm) off trivial ⟨rfl, sizes_skip hB.used hi hb hy⟩
      · intro ys hy
        have hy6 : IntsAre ys (sizesTo σ₂.used 6) := hy
        clear hy
        have fal : fas.length ≤ 6 := by rw [fp.length, fI.length]; exact hB.free
        k_steps
        all_goals (try k_data)
        refine comp_start ?_
        (rename News _ _ _ _ => N₃)
        refine' Tells.use ?k1 ?k2 ?k3 ?k4 ?k5 ?kK (keys_tells (fH.mono fun p hp => ?zq) ?zsz) ?kd ?ku ?_
        walk_at "m sides"
        case zq => exact .tail _ hp
        case zsz => rw [sizeLine_eq, List.size_toArray, List.length_map]; exact Nat.le_trans fal (by decide)
        intro r n₇ h₇ tk₇ hP F₈ N₈
        obtain ⟨D7, ys7, er, e7, hS7, hD7⟩ := hP
        subst er
        subst e7
        have ys7l : ys7.length ≤ 6 := by rw [hS7.length, List.length_map, fI.length]; exact hB.free
        k_steps
        all_goals (try k_data)
        refine comp_same (fun i zs => StrsAre zs (((fkvs.map (·.1)).take i).map Txt.lower)) ?_ .nil ?_
        · intro i v zs I' oI C oC D m₄ h tk E' hi hz hv hC hx F' N' off ne
          obtain ⟨z, t, hz7, rfl⟩ := strs_item hS7 hv
          have hz1 : z.length ≤ 1000 := by
            obtain ⟨kv, hkv, rfl⟩ := List.mem_map.mp (List.mem_of_getElem? hz7)
            exact fI.short kv hkv
          clear K₂ hAsk hok HI hlen hne hda d1 d2 d3 fH fI fx fdx fl fp u1 du u2 u3 u4 HD mf mg' mw mc I1 I2 I3 I4 k1 k5 hodd hDN hc' hB fal ys7l
          k_steps
          all_goals (try k_data)
          exact comp_end (by k_asm) (by k_asm) off (.inr ⟨_, .head _, rfl, _, rfl⟩) ⟨rfl, by rw [map_take_succ Txt.lower hz7]; exact kct_snoc hz⟩
        · intro zs hz
          have hz' : StrsAre zs ((fkvs.map (·.1)).map Txt.lower) := by
            rw [show ys7.toArray.size = (fkvs.map (·.1)).length by rw [List.size_toArray, hS7.length], List.take_length] at hz
            exact hz
          have zl : zs.length < 64 := by rw [hz'.length, List.length_map, ← hS7.length]; exact Nat.lt_of_le_of_lt ys7l (by decide)
          k_steps
          all_goals (try k_data)
          (rename Fr _ _ _ _ => F₉); (rename News _ _ _ _ => N₉)
          refine comp_start (sorted_N_strL F₉ N₉ (News.isList N₉ (.head _)) hz' zl fun D9 h₉ vs9 ss9 e9 F₁₀ N₁₀ l9 hS9 hp9 hs9 => ?_)
          have ysl : ys.length ≤ 6 := by rw [hy6.length]; exact sizesTo_len _
          have ysz : ys.toArray.size ≤ sizeLine := by rw [sizeLine_eq, List.size_toArray]; exact Nat.le_trans ysl (by decide)
          have e10 := sizes_names HI fI hp9 hs9
          subst e10
          k_steps
          all_goals (try k_data)
          refine comp_same (fun i zs => StrsAre zs (((sizesTo σ₂.used 6).take i).map namedK)) ?_ .nil ?_
          · intro i v zs I' oI C oC D m₄ h tk E' hi hz hv hC hx F' N' off ne
            obtain ⟨z, t, hz7, rfl⟩ := asked_item hy6 hv
            obtain ⟨hz0, hz5⟩ := sizesTo_mem (List.mem_of_getElem? hz7)
            clear K₂ hAsk hok HI hlen hne hda d1 d2 d3 fH fI fx fdx fl fp u1 du u2 u3 u4 HD mf mg' mw mc I1 I2 I3 I4 k1 k5 hodd hDN hc' hB fal ys7l
            k_steps
            all_goals (try k_data)
            exact comp_end (by k_asm) (by k_asm) off (.inr ⟨_, .tail _ (.tail _ (.tail _ (.head _))), rfl, _, rfl⟩) ⟨rfl, by rw [map_take_succ namedK hz7]; exact kct_snoc hz⟩
          · intro zs₂ hz₂
            have hz₃ : StrsAre zs₂ ((sizesTo σ₂.used 6).map namedK) := by
              rw [show ys.toArray.size = (sizesTo σ₂.used 6).length by rw [List.size_toArray, hy6.length], List.take_length] at hz₂
              exact hz₂
            k_steps
            all_goals (try k_data)
            (rename News _ _ _ _ => N₁₁)
            refine comp_start (ks_ne_same rfl (News.isList N₁₁ (.tail _ (.head _))) (News.isList N₁₁ (.head _)) hS9 hz₃ strOk_named (by ke_room) ?_)
            k_steps
            all_goals (try k_data)
            (rename News _ _ _ _ => N₁₂)
            refine comp_start (ke_eq_ints (News.isList N₁₂ (.tail _ (.tail _ (.tail _ (.tail _ (.tail _ (.head _))))))) (News.isList N₁₂ (.head _)) hy6 .nil (by ke_room) ?_)
            k_steps
            all_goals (try k_data)
            · exfalso
              (rename (_ != _) = true => hx)
              exact absurd (hx.symm.trans (sizes_eof HI)) (by decide)
            (rename Fr _ _ _ _ => F₁₃); (rename News _ _ _ _ => N₁₃)
            refine TEnd.of F₁₃ N₁₃ ?_ hc' I1 I2 I3 I4 (K₂.sub (fun p hp => ?_) rfl rfl rfl rfl) rfl hDN
            · walk_at "m told"
            · walk_at "m told"
    simp only [List.take_succ_cons, List.take_zero]
    k_steps
    all_goals (try k_data)
    refine comp_start ?_
    (rename Fr _ _ _ _ => F₂); (rename News _ _ _ _ => N₂)
    refine storeX_P F₂ N₂ rfl S0.u2 d2' fun h₂ o2' n₂ F₃ N₃ hk₂ hnc₂ c2 dc2 => ?_
    have SS₂ := S0.st2 hDN hk₂ hnc₂ c2 dc2
    have HD₂ := HD₁.nc (.of_nc hnc₂)
    have e1₂ := SS₂.u1
    clear hk₂ hnc₂ HD₁ hmem N₂ F₂ S0
    obtain ⟨wvs, wk, wm, wS⟩ := id HD₂.ws
    obtain ⟨zvs, zk, zm, zI⟩ := id HD₂.cs
    k_steps
    all_goals (try k_data)
    refine comp_start ?_
    (rename News _ _ _ _ => N₃)
    have hwOk : ∀ x ∈ σ.words, PyData.strOk x = true := fun x hx => strOk_word (hB.wordOk x hx).1
    refine ks_eq (News.isList N₃ (.tail _ wm)) (News.isList N₃ (.head _)) wS .nil hwOk (fun _ h => nomatch h) (by ke_room) ?_
    k_steps
    all_goals (try k_data)
    · exfalso
      (rename (_ != _) = true => hx)
      exact absurd (hx.symm.trans (first_nonterm hB)) (by decide)
    refine comp_start ?_
    (rename Fr _ _ _ _ => F₄); (rename News _ _ _ _ => N₄)
    obtain ⟨m₃, F₅, q1, q2, q3, q4, ⟨t5, q5⟩, ⟨t6, q6⟩⟩ : ∃ m₃ : Str → Option Value, Fr _ _ _ m₃ ∧ m₃ (Str.ofString "free") = some (.ref A.xf) ∧ m₃ (Str.ofString "given") = some (.ref A.xg) ∧ m₃ (Str.ofString "words") = some (.ref A.lw) ∧ m₃ (Str.ofString "cells") = some (.ref lc) ∧ (∃ t, m₃ (Str.ofString "odd") = some (.int p2 t)) ∧ (∃ t, m₃ (Str.ofString "part") = some (.int (partOfSize k : Nat) t)) :=
      ⟨_, F₄, mf, mg', mw, mc, ⟨_, rfl⟩, ⟨_, by rw [← part_eq k1 k5]; rfl⟩⟩
    have N₅ := fun p (hp : p ∈ n₂) => N₄ p (.tail _ hp)
    replace N₅ : News _ _ _ n₂ := N₅
    clear F₄ N₄ mf mg' mw mc hwOk
    refine' Tells.use ?k1 ?k2 ?k3 ?k4 ?k5 ?kK (first_tells zm zI hB.cells ?zh0 ?zh1) ?kd ?ku ?_
    walk_at "m sides"
    case zh0 => omega
    case zh1 => omega
    intro r n₃ h₃ tk₃ hP F₆ N₆
    obtain ⟨e3, hr⟩ := hP
    subst e3
    clear F₅ N₅
    have S := linv_step HI k1 k5 p2 hodd
    obtain ⟨fas, fk, fkvs, fH, fI⟩ := id HD₂.f
    have hfz : σ.fs.length ≤ 800 := Nat.le_trans hB.free (by decide)
    have hfw : ∀ p ∈ σ.fs, Plain p.2 ∧ p.2.length ≤ 900 := fun p hp => ⟨plain_word (hB.freeOk p hp).1, Nat.le_trans (hB.freeOk p hp).1.1 (by decide)⟩
    have hpl := part_le k1 k5
    cases hfi : firstOf σ.cells (k : Int) with
    | none =>
      cases hse : servedOf σ.fs k with
      | some q =>
        rw [hfi, hse] at S
        exact S.elim
      | none =>
        rw [hfi, hse] at S
        rw [hfi] at hr
        dsimp only at S hr
        subst hr
        k_steps
        all_goals (try k_data)
        refine comp_start ?_
        refine' Tells.use ?k1 ?k2 ?k3 ?k4 ?k5 ?kK (served_tells fH fI hfz k5 hodd hfw) ?kd ?ku ?_
        walk_at "m sides"
        intro r n₄ h₄ tk₄ hP F₇ N₇
        rw [hse] at hP
        obtain ⟨e5, e4⟩ := hP
        subst e5
        subst e4
        k_steps
        all_goals (try k_data)
        refine comp_start ?_
        refine storeX_P F₇ N₇ rfl SS₂.u3 d3' fun h₅ o5 n₅' F₉ N₉ hk₅ hnc₅ c3 dc3 => ?_
        have SS₃ := SS₂.st3 hDN hk₅ hnc₅ c3 dc3
        have HD₃ := HD₂.nc (.of_nc hnc₅)
        have e1₃ := SS₃.u1
        have c2₃ := SS₃.u2
        clear hk₅ hnc₅ N₇ F₇
        k_steps
        all_goals (try k_data)
        · exfalso
          (rename (_ != _) = true => hx)
          rw [fits_no S] at hx
          cases hx
        (rename Fr _ _ _ _ => F₈); (rename News _ _ _ _ => N₈)
        have hne' : σ.words ≠ [] := fun e => used_not S hpl.1 (hB.none.mp e)
        have hlen' : σ.words.length + ps₁.length ≤ 10 := len_tail hlen
        exact ⟨rfl, _, _, _, _, σ, lc, rfl, F₈, N₈, SS₃.it, ⟨q1, q2, q3, q4, ⟨_, _, e1₃, du⟩, ⟨_, _, c2₃, dc2⟩, ⟨_, _, SS₃.u3, dc3⟩, ⟨_, _, SS₃.u4, d4'⟩, HD₃, SS₃.ak, fun p hp => hok p (.tail _ hp), HI, hlen', .inl hne', SS₃.da, d1, d2, d3⟩⟩
    | some j =>
      cases hse : servedOf σ.fs k with
      | none =>
        rw [hfi, hse] at S
        exact S.elim
      | some q =>
        obtain ⟨wd, fs'⟩ := q
        rw [hfi, hse] at S
        rw [hfi] at hr
        obtain ⟨S1, S2, S3, S4⟩ := S
        replace S3 : wd = spelledOf j (k : Nat) := S3
        obtain ⟨tj, rfl⟩ := hr
        have hwne : σ.words ++ [wd] ≠ [] := by simp
        have hwq : WordOk wd ∧ 1 ≤ wd.length := (linv_bounds S4).wordOk wd (List.mem_append_right _ (.head _))
        k_steps
        all_goals (try k_data)
        refine comp_start ?_
        (rename News _ _ _ _ => N₆)
        refine' Tells.use ?k1 ?k2 ?k3 ?k4 ?k5 ?kK (served_tells fH fI hfz k5 hodd hfw) ?kd ?ku ?_
        walk_at "m sides"
        intro r n₄ h₄ tk₄ hP F₇ N₇
        rw [hse] at hP
        obtain ⟨⟨tq, e5⟩, hs₄, as₄, k₄, kvs₄, fH₄, fI₄⟩ := hP
        replace e5 : r = .str wd tq := e5
        subst e5
        have SS₄ := SS₂.off N₆ fH.list hs₄ d1
        have HD₄ := HD₂.served N₆ hs₄ fH₄ fI₄
        clear hs₄ SS₂ HD₂ wm zm c2 e1₂ fH fI N₆
        k_steps
        all_goals (try k_data)
        refine comp_start ?_
        refine storeX_P F₇ N₇ rfl SS₄.u3 d3' fun h₅ o5 n₅' F₉ N₉ hk₅ hnc₅ c3 dc3 => ?_
        have SS₃ := SS₄.st3 hDN hk₅ hnc₅ c3 dc3
        have HD₃ := HD₄.nc (.of_nc hnc₅)
        have e1₃ := SS₃.u1
        have c2₃ := SS₃.u2
        clear hk₅ hnc₅ N₇ F₇ SS₄ HD₄
        k_steps
        all_goals (try k_data)
        · exfalso
          (rename (_ != _) = true => hx)
          rw [fits_yes S2] at hx
          cases hx
        refine comp_start ?_
        refine' Tells.use ?k1 ?k2 ?k3 ?k4 ?k5 ?kK (spelled_tells (Int.ofNat_le.mpr k1) (Int.ofNat_le.mpr k5) ?zh2) ?kd ?ku ?_
        walk_at "m sides"
        case zh2 => exact Nat.le_trans (Nat.le_add_right _ _) S1
        intro r n₆' h₆' tk₆' hP F₁₀ N₁₀
        obtain ⟨e6, tw, hr6⟩ := hP
        rw [← S3] at hr6
        subst hr6
        replace e6 := e6.symm
        subst e6
        k_steps
        all_goals (try k_data)
        obtain ⟨wvs₃, wk₃, wm₃, wS₃⟩ := id HD₃.ws
        have wl₃ : wvs₃.length ≤ 10 := by rw [wS₃.length]; exact Nat.le_trans (Nat.le_add_right _ _) (len_tail hlen)
        refine comp_start (ne_str_self ?_)
        k_steps
        all_goals (try k_data)
        refine comp_start ?_
        refine append_put F₁₀ N₁₀ wm₃ (by rw [sizeLine_eq, List.size_toArray]; exact Nat.le_trans wl₃ (by decide)) fun h₇ F₁₂ N₁₂ hAp => ?_
        rw [List.push_toArray] at N₁₂
        obtain ⟨n₇, N₁₃, hs₇, hw₇⟩ : ∃ n₇, News _ _ _ n₇ ∧ (∀ p ∈ n₅', p.1 ≠ A.lw → p ∈ n₇) ∧ (A.lw, listOf (wvs₃ ++ [Value.str wd _]).toArray (wk₃ + 1)) ∈ n₇ := ⟨_, N₁₂, fun p hp hne => mem_putAt_ne hp hne, mem_putAt_self wm₃⟩
        have SS₇ := SS₃.off N₁₀ wm₃ hs₇ d3
        have HD₇ := HD₃.worded N₁₀ hs₇ hw₇ (kct_snoc wS₃)
        obtain ⟨gas, gk, gH⟩ := id HD₇.g
        obtain ⟨gx, ⟨gtk, gdx⟩, gl, gp⟩ := id gH
        have u1₇ := SS₇.u1
        have u2₇ := SS₇.u2
        have u3₇ := SS₇.u3
        clear N₁₂ F₁₀ N₁₀ SS₃ HD₃ hs₇ hAp e1₃ c2₃ c3 wm₃
        k_steps
        all_goals (try k_data)
        refine comp_start ?_
        have hnm := of_name k1 k5 hodd
        refine' Tells.use ?k1 ?k2 ?k3 ?k4 ?k5 ?kK (name_tells ?zh0 (Int.natCast_nonneg k) (Int.ofNat_le.mpr k5) ?zh1) ?kd ?ku ?_
        walk_at "m sides"
        case zh0 => decide +kernel
        case zh1 => exact Nat.le_trans hnm.2.2.1 (by decide)
        intro r n₈ h₈ tk₈ hP F₁₃ N₁₄
        obtain ⟨e7, tn, hr7⟩ := hP
        replace hr7 : r = .str (nameOf ofn (k : Nat) p2) tn := hr7
        subst hr7
        replace e7 := e7.symm
        subst e7
        k_steps
        all_goals (try k_data)
        refine comp_start ?_
        have hgl : gas.length ≤ 1000 := by
          rw [gp.length]
          show σ.gv.length ≤ 1000
          rw [hB.gvl]
          exact Nat.le_trans (Nat.le_trans (Nat.le_add_right _ _) (len_tail hlen)) (by decide)
        refine' Tells.use ?k1 ?k2 ?k3 ?k4 ?k5 ?kK (add_tells gH hnm.1 ?zh0 (plain_word hwq.1) ?zh1 hgl) ?kd ?ku ?_
        walk_at "m sides"
        case zh0 => rw [sizeLine_eq]; exact Nat.le_trans hnm.2.1 (by decide)
        case zh1 => exact Nat.le_trans hwq.1.1 (by decide)
        intro r n₉ h₉ tk₉ hP F₁₄ N₁₅
        obtain ⟨e8, hs₉, as₉, k₉, gH₉, _⟩ := hP
        subst e8
        have SS₉ := SS₇.off N₁₄ gl hs₉ d2
        have HD₉ := HD₇.added N₁₄ hs₉ gH₉
        obtain ⟨zvs₉, zk₉, zm₉, zI₉⟩ := id HD₉.cs
        have u1₉ := SS₉.u1
        have u2₉ := SS₉.u2
        clear gH gx gdx gl gp hs₉ SS₇ HD₇ u1₇ u2₇ u3₇ hw₇ N₁₃ F₁₃ N₁₄
        k_steps
        all_goals (try k_data)
        refine comp_start ?_
        refine' Tells.use ?k1 ?k2 ?k3 ?k4 ?k5 ?kK (taken_tells zm₉ zI₉ hB.cells (Int.ofNat_le.mpr k1) (Int.ofNat_le.mpr k5) S1) ?kd ?ku ?_
        walk_at "m sides"
        intro r n_a h_a tk_a hP F₁₅ N₁₆
        obtain ⟨D, ws', er, e9, hI', hD'⟩ := hP
        subst er
        subst e9
        have SSa := SS₉.sub (fun p hp => .tail (D, listOf ws'.toArray 0) hp)
        have HDa := HD₉.celled (fun p hp => .tail (D, listOf ws'.toArray 0) hp) (.head _) hI' hD'
        have u1a := SSa.u1
        clear SS₉ HD₉ u1₉ u2₉ zm₉ zI₉ hD' hI'
        k_steps
        all_goals (try k_data)
        refine comp_start ?_
        (rename Fr _ _ _ _ => F₁₇); (rename News _ _ _ _ => N₁₇)
        refine storeX_P F₁₇ N₁₇ rfl SSa.u1 du fun h_b ob n_b F₁₈ N₁₈ hk_b hnc_b cb dcb => ?_
        have SSb := SSa.st1 hDN hk_b hnc_b cb dcb
        have HDb := HDa.nc (.of_nc hnc_b)
        clear hk_b hnc_b SSa HDa u1a
        k_steps
        all_goals (try k_data)
        (rename Fr _ _ _ _ => F₁₉)
        exact ⟨rfl, _, _, _, _, σ.next k j p2 (wd, fs'), D, rfl, F₁₉, N₁₈, SSb.it, ⟨q1, q2, q3, rfl, ⟨_, _, SSb.u1, dcb⟩, ⟨_, _, SSb.u2, dc2⟩, ⟨_, _, SSb.u3, dc3⟩, ⟨_, _, SSb.u4, d4'⟩, HDb.used _, SSb.ak, fun p hp => hok p (.tail _ hp), S4, len_more hlen, .inl hwne, SSb.da, d1, d2, d3⟩⟩
  · exact ⟨qs, askedOf ns, st0, lc, rfl, ⟨mf, mg', mw, mc, ⟨_, _, u1, dcu⟩, ⟨_, _, v2, dv2⟩, ⟨_, _, v3, dv3⟩, ⟨_, _, v4, dv4⟩, HD₆, hAsk, asked_ok ns, linv_init, by show 0 + _ ≤ _; have := (asked_len ns).1; omega, .inr (asked_len ns).2, hDA, d1, d2, d3⟩, fun p hp => Nat.ne_of_lt (l1 p hp)⟩
end

end Mine

-- NEEDS: p30_try
theorem PySem.Challenge.cw_ta0063_01_holds : PySem.Challenge.rw_ta0063_01.Holds := by
  exact Mine.try_walk
