import PyProof.Rows.All
import Wide.All
import OpenK.AllK
import Wide.FinOn
import Lean
import PySem.Challenge.RW_xg0050_01
open PySem PySem.W PyProof.Rows
set_option Elab.async false
set_option maxRecDepth 100000
set_option maxHeartbeats 8000000
set_option linter.unusedVariables false
set_option linter.unusedSimpArgs false
namespace Mine
open_top hd for PySem.Challenge.rw_xg0050_01
end Mine
namespace Mine
noncomputable abbrev PR : Program := PySem.Challenge.rw_xg0050_01.row.prog
noncomputable abbrev VW : Program := Mine.hd.view_39
noncomputable abbrev LO : List Str := looseW Mine.hd.view_39 [Str.ofString "HEADER_TOKEN_RE", Str.ofString "IPV4_RE"]
noncomputable abbrev TN {D : Type} (w : World) (mean : ExcName → Option Value) (mg mb : Str → Option Value) (f : Addr) (c : ToldN D) : Prop :=
  ∀ d, TellsN PR w (Mine.hd.heap_39 w.params) VW LO mean mg mb f c d
end Mine
namespace Mine
open PySem.Builtin PySem.Builtin.Re

theorem pa_pat : PlainAttrs "re.Pattern" :=
  ⟨⟨"object.__getattribute__", by rw [typeLookup_type, builtinLookup_eq_fast]; kernel_rfl, by decide +kernel⟩, by rw [typeLookup_type, builtinLookup_eq_fast]; kernel_rfl⟩
theorem pa_mat : PlainAttrs "re.Match" :=
  ⟨⟨"object.__getattribute__", by rw [typeLookup_type, builtinLookup_eq_fast]; kernel_rfl, by decide +kernel⟩, by rw [typeLookup_type, builtinLookup_eq_fast]; kernel_rfl⟩
theorem slot_search : Slot "re.Pattern" "search" "re.Pattern.search" :=
  .of (owner := "re.Pattern") (n := "search") (by rw [typeLookup_type, builtinLookup_eq_fast]; kernel_rfl) (by decide +kernel) (by decide +kernel) (by decide +kernel)
    (by first | exact .inl (by decide +kernel) | exact .inr (by decide +kernel)) (by rw [isSubtype_type]; kernel_rfl)
theorem slot_span : Slot "re.Match" "span" "re.Match.span" :=
  .of (owner := "re.Match") (n := "span") (by rw [typeLookup_type, builtinLookup_eq_fast]; kernel_rfl) (by decide +kernel) (by decide +kernel) (by decide +kernel)
    (by first | exact .inl (by decide +kernel) | exact .inr (by decide +kernel)) (by rw [isSubtype_type]; kernel_rfl)
theorem slot_group : Slot "re.Match" "group" "re.Match.group" :=
  .of (owner := "re.Match") (n := "group") (by rw [typeLookup_type, builtinLookup_eq_fast]; kernel_rfl) (by decide +kernel) (by decide +kernel) (by decide +kernel)
    (by first | exact .inl (by decide +kernel) | exact .inr (by decide +kernel)) (by rw [isSubtype_type]; kernel_rfl)
theorem type_search : typeOf (.builtin "re.Pattern.search") = pure (.type "method_descriptor") := by show builtinType _ = _; rw [builtinType_eq_fast]; kernel_rfl
theorem type_span : typeOf (.builtin "re.Match.span") = pure (.type "method_descriptor") := by show builtinType _ = _; rw [builtinType_eq_fast]; kernel_rfl
theorem type_group : typeOf (.builtin "re.Match.group") = pure (.type "method_descriptor") := by show builtinType _ = _; rw [builtinType_eq_fast]; kernel_rfl
theorem entry_search : entryFor table "re.Pattern.search" = some Builtin.«re.Pattern.search» := entryFor_of_tree (by kernel_rfl)
theorem entry_span : entryFor table "re.Match.span" = some Builtin.«re.Match.span» := entryFor_of_tree (by kernel_rfl)
theorem entry_group : entryFor table "re.Match.group" = some Builtin.«re.Match.group» := entryFor_of_tree (by kernel_rfl)
theorem entry_string : entryFor table "re.Match.string" = some Builtin.«re.Match.string» := entryFor_of_tree (by kernel_rfl)
theorem own_pat : Manifest.owners.lookup (String.ofList ['n', 'r', 'e', 't', 't', 'a', 'P', '.', 'e', 'r'].reverse) = some Manifest.sig_re_Pattern := by kernel_rfl
theorem own_mat : Manifest.owners.lookup (String.ofList ['h', 'c', 't', 'a', 'M', '.', 'e', 'r'].reverse) = some Manifest.sig_re_Match := by kernel_rfl
theorem args_search (a b : Value) : argsOk "re.Pattern.search" ⟨[a, b], []⟩ := by
  unfold argsOk; rw [signature?_of (id := "re.Pattern.search") (n := ['h', 'c', 'r', 'a', 'e', 's']) (o := ['n', 'r', 'e', 't', 't', 'a', 'P', '.', 'e', 'r']) (by kernel_rfl) own_pat]; kernel_rfl
theorem args_span (a b : Value) : argsOk "re.Match.span" ⟨[a, b], []⟩ := by
  unfold argsOk; rw [signature?_of (id := "re.Match.span") (n := ['n', 'a', 'p', 's']) (o := ['h', 'c', 't', 'a', 'M', '.', 'e', 'r']) (by kernel_rfl) own_mat]; kernel_rfl
theorem args_group (a b : Value) : argsOk "re.Match.group" ⟨[a, b], []⟩ := by
  unfold argsOk; rw [signature?_of (id := "re.Match.group") (n := ['p', 'u', 'o', 'r', 'g']) (o := ['h', 'c', 't', 'a', 'M', '.', 'e', 'r']) (by kernel_rfl) own_mat]; kernel_rfl

section
variable {M : Model} {A : Around} {E : Value → Shared → Prop} {s : Shared}

theorem meth_search {p : Addr} {o : Obj} {pl : Sem Bool} {Q : Value × List Value → Shared → Prop} (ho : s.heap.get? p = some o) (hc : o.cls = .type "re.Pattern") (hd : o.dict = none)
    (h : Q (.builtin "re.Pattern.search", [.ref p]) s) : wpAny M A (getMethod (.ref p) "search" pl) Q E s :=
  getMethod_builtin ⟨o, ho, hc⟩ pa_pat slot_search type_search (fun a e => by cases e; exact ⟨o, ho, hd⟩) h
theorem meth_span {p : Addr} {o : Obj} {pl : Sem Bool} {Q : Value × List Value → Shared → Prop} (ho : s.heap.get? p = some o) (hc : o.cls = .type "re.Match") (hd : o.dict = none)
    (h : Q (.builtin "re.Match.span", [.ref p]) s) : wpAny M A (getMethod (.ref p) "span" pl) Q E s :=
  getMethod_builtin ⟨o, ho, hc⟩ pa_mat slot_span type_span (fun a e => by cases e; exact ⟨o, ho, hd⟩) h
theorem meth_group {p : Addr} {o : Obj} {pl : Sem Bool} {Q : Value × List Value → Shared → Prop} (ho : s.heap.get? p = some o) (hc : o.cls = .type "re.Match") (hd : o.dict = none)
    (h : Q (.builtin "re.Match.group", [.ref p]) s) : wpAny M A (getMethod (.ref p) "group" pl) Q E s :=
  getMethod_builtin ⟨o, ho, hc⟩ pa_mat slot_group type_group (fun a e => by cases e; exact ⟨o, ho, hd⟩) h

theorem runFor_done {m : Sre.M} (h : m.outcome.isSome = true) : ∀ n, m.runFor n = m
  | 0 => rfl
  | n + 1 => by unfold Sre.M.runFor; rw [if_pos h]
theorem runFor_add (a b : Nat) : ∀ m : Sre.M, m.runFor (a + b) = (m.runFor a).runFor b := by
  induction a with
  | zero => intro m; rw [Nat.zero_add]; rfl
  | succ a ih =>
    intro m
    rw [Nat.succ_add]
    have e : ∀ n (m : Sre.M), Sre.M.runFor (n + 1) m = if m.outcome.isSome then m else Sre.M.runFor n m.step := fun _ _ => rfl
    rw [e, e]
    by_cases h : m.outcome.isSome = true
    · rw [if_pos h, if_pos h]; exact (runFor_done h b).symm
    · rw [if_neg h, if_neg h]; exact ih m.step

theorem wp_drive {m' : Sre.M} {Q : Sre.M → Shared → Prop} (hm : m'.outcome.isSome = true) (hQ : Q m' s) :
    ∀ (n turns : Nat) (m : Sre.M), n < turns → m.runFor (4 * n) = m' → wpAny M A (reDrive turns m) Q E s := by
  intro n
  induction n with
  | zero =>
    intro turns m ht hr
    obtain ⟨t, rfl⟩ : ∃ t, turns = t + 1 := ⟨turns - 1, by omega⟩
    have e : m = m' := hr
    subst e
    unfold reDrive
    dsimp only
    rw [runFor_done hm, if_pos hm]
    exact wpAny_pure hQ
  | succ n ih =>
    intro turns m ht hr
    obtain ⟨t, rfl⟩ : ∃ t, turns = t + 1 := ⟨turns - 1, by omega⟩
    rw [show 4 * (n + 1) = 4 + 4 * n by omega, runFor_add] at hr
    unfold reDrive
    dsimp only
    by_cases h : (m.runFor 4).outcome.isSome = true
    · have e : m.runFor 4 = m' := by rw [runFor_done h] at hr; exact hr
      show wpAny M A (if (m.runFor 4).outcome.isSome = true then _ else _) Q E s
      rw [if_pos h]
      show wpAny M A (pure (m.runFor 4)) Q E s
      rw [e]
      exact wpAny_pure hQ
    · show wpAny M A (if (m.runFor 4).outcome.isSome = true then _ else _) Q E s
      rw [if_neg h]
      exact wpAny_bind (wpAny_rule (ih t (m.runFor 4) (by omega) hr))

theorem wp_tags {m : Sre.M} {Q : PUnit → Shared → Prop} (hQ : Q ⟨⟩ s) : ∀ l : List Nat,
    wpAny M A (forIn l PUnit.unit fun i (_ : PUnit) => do
      if m.seen.has i = true then do
        rule (Sre.names.getD i "")
        pure (ForInStep.yield PUnit.unit)
      else pure (ForInStep.yield PUnit.unit)) Q E s
  | [] => by rw [List.forIn_nil]; exact wpAny_pure hQ
  | i :: r => by
    rw [List.forIn_cons]
    refine wpAny_bind (wpAny_ite ?_)
    split
    · exact wpAny_bind (wpAny_rule (wpAny_pure (wp_tags hQ r)))
    · exact wpAny_pure (wp_tags hQ r)

theorem wp_toEnd {m m' : Sre.M} {n : Nat} {Q : Option Sre.M → Shared → Prop} (hn : n < 2 ^ 64) (hr : m.runFor (4 * n) = m')
    (h : (m'.outcome matches some .matched ∧ Q (some m') s) ∨ (m'.outcome matches some .failed ∧ Q none s)) : wpAny M A (reRunToEnd m) Q E s := by
  unfold reRunToEnd
  have hs : m'.outcome.isSome = true := by
    rcases h with ⟨h, _⟩ | ⟨h, _⟩
    · revert h; cases m'.outcome <;> simp
    · revert h; cases m'.outcome <;> simp
  refine wpAny_bind (wp_drive hs ?_ n (2 ^ 64) m hn hr)
  refine wpAny_bind (wp_tags ?_ _)
  rcases h with ⟨h, hq⟩ | ⟨h, hq⟩
  · revert h
    cases ho : m'.outcome with
    | none => simp
    | some o => cases o <;> first | (intro _; exact wpAny_pure hq) | simp
  · revert h
    cases ho : m'.outcome with
    | none => simp
    | some o => cases o <;> first | (intro _; exact wpAny_pure hq) | simp
end
end Mine
namespace Mine
open PySem.Builtin PySem.Builtin.Re

theorem named_one (id f : String) (v : Value) : reNamed id f ["string", "pos", "endpos"] 1 [v] [] = pure [some v, none, none] := by
  rfl

section
variable {M : Model} {A : Around} {E : Value → Shared → Prop} {s : Shared}
theorem wp_rawItems {c : Addr} {oc : Obj} {code : Array Value} {ep : Nat} {Q : Array Int → Shared → Prop} (hc : s.heap.get? c = some oc) (hcd : oc.data = .seq code ep) (h : Q (code.map reRawOf) s) :
    wpAny M A (reRawItems (.ref c)) Q E s := by
  unfold reRawItems
  exact wpAny_bind (wpAny_seqItems hc hcd (wpAny_pure h))
theorem wp_target {id f : String} {p c : Addr} {op oc : Obj} {pat fl gi ig : Value} {g tg tk ep : Nat} {code : Array Value} {x : Str} {t : Tok} {Q : ReTarget → Shared → Prop}
    (hp : s.heap.get? p = some op) (hd : op.data = .fields #[pat, fl, .int g tg, gi, ig, .ref c, .int 0 tk]) (hc : s.heap.get? c = some oc) (hcd : oc.data = .seq code ep) (hx : x.length < 9223372036854775807)
    (h : Q { pattern := .ref p, string := .str x t, code := (code.map reRawOf).map (·.toNat), text := x.cps, kind := 0, groups := g, pos := 0, lim := x.length } s) :
    wpAny M A (reTarget id f ⟨[.ref p, .str x t], []⟩) Q E s := by
  unfold reTarget
  dsimp only
  rw [named_one]
  refine wpAny_bind (wpAny_pure ?_)
  dsimp only
  refine wpAny_bind (wpAny_pure (wpAny_bind (wpAny_pure ?_)))
  refine wpAny_bind (wpAny_fieldsOf hp hd ?_)
  refine wpAny_bind (m := reTextOf (.str x t)) ?_
  unfold reTextOf
  refine wpAny_bind (m := asStr? (.str x t)) (wpAny_pure ?_)
  refine wpAny_pure ?_
  dsimp only
  have e1 : reRawNat ((#[pat, fl, Value.int (↑g) tg, gi, ig, Value.ref c, Value.int 0 tk] : Array Value).getD 6 .none) = 0 := rfl
  rw [e1]
  simp only [Bool.and_false, Bool.false_eq_true, if_false, beq_self_eq_true, Bool.true_and, show ((0 : Nat) == 1) = false from rfl, Bool.false_and]
  refine wpAny_bind (m := reNoCollectionInside (.str x t) 0) (wpAny_pure ?_)
  refine wpAny_bind (wp_rawItems (code := code) hc hcd ?_)
  refine wpAny_pure ?_
  have e2 : min (0 : Int).toNat x.cps.size = 0 := by simp
  have e3 : min (2 ^ 63 - 1 : Int).toNat x.cps.size = x.length := by
    have : x.cps.size = x.length := rfl
    rw [this]
    have : (2 ^ 63 - 1 : Int).toNat = 9223372036854775807 := by decide
    omega
  rw [e2, e3]
  exact h
end
end Mine
namespace Mine
open PySem.Builtin PySem.Builtin.Re

abbrev spObj (l : List Int) : Obj := { cls := .type "tuple", data := .seq (l.map rawInt).toArray }
abbrev matObj (x : Str) (t : Tok) (p : Addr) (lim : Nat) (li : Int) (sp : Addr) : Obj :=
  { cls := .type "re.Match", data := .fields #[.str x t, .ref p, rawInt (0 : Nat), rawInt lim, rawInt li, .ref sp] }

section
variable {prog : Program} {w : World} {A : Around} {E : Value → Shared → Prop} {s : Shared}
theorem call_by {T : String} {name : Str} {id : String} {B : Builtin} {self : Value} {rest : List Value} {Q : Value → Shared → Prop} (slot : Slot T name id) (hT : s.TypeIs self T)
    (entry : entryFor table id = some B) (args : argsOk id ⟨self :: rest, []⟩) (h : wpAny (model prog w) A.in1 (B ⟨self :: rest, []⟩) (fun fin s' => ∃ v, fin = .done (.ret v) ∧ Q v s') E s) :
    wpAny (model prog w) A (call (.builtin id) (self :: rest)) Q E s :=
  wpAny_call (codeAny_call_builtin slot.plain entry (slot.check _ _ _ _ _ _ _ _ hT args (wpAny_mono h (fun fin s' h' => by obtain ⟨v, rfl, hq⟩ := h'; exact hq) fun _ _ e => e)))

theorem search_of {p c : Addr} {op oc : Obj} {pat fl gi ig : Value} {g tg tk ep n : Nat} {code : Array Value} {x : Str} {t : Tok} {m' : Sre.M} {Q : Value → Shared → Prop}
    (hp : s.heap.get? p = some op) (hcl : op.cls = .type "re.Pattern") (hd : op.data = .fields #[pat, fl, .int g tg, gi, ig, .ref c, .int 0 tk]) (hc : s.heap.get? c = some oc) (hcd : oc.data = .seq code ep) (hx : x.length < 9223372036854775807)
    (hn : n < 2 ^ 64) (hr : (Sre.forSearch ((code.map reRawOf).map (·.toNat)) x.cps g 0 x.length false).runFor (4 * n) = m')
    (h : (m'.outcome matches some .matched ∧ wpAny (model prog w) A.in1 (reNewMatch (.ref p) (.str x t) g 0 x.length m') Q E s) ∨ (m'.outcome matches some .failed ∧ Q .none s)) :
    wpAny (model prog w) A (call (.builtin "re.Pattern.search") [.ref p, .str x t]) Q E s := by
  refine call_by slot_search ⟨op, hp, hcl⟩ entry_search (args_search _ _) ?_
  unfold Builtin.«re.Pattern.search»
  refine wpAny_bind (wp_target hp hd hc hcd hx ?_)
  dsimp only
  unfold reAnswer
  refine wpAny_bind (wp_toEnd hn hr ?_)
  rcases h with ⟨h, hq⟩ | ⟨h, hq⟩
  · exact .inl ⟨h, wpAny_bind (wpAny_mono hq (fun v s' hv => wpAny_pure ⟨v, rfl, hv⟩) fun _ _ e => e)⟩
  · exact .inr ⟨h, wpAny_pure ⟨_, rfl, hq⟩⟩

variable {h₀ : Heap} {L : Addr} {m : Str → Option Value} {news : List (Addr × Obj)}
theorem newMatch0 {p : Addr} {x : Str} {t : Tok} {lim : Nat} {m' : Sre.M} {Q : Value → Shared → Prop} (F : Fr h₀ L s.heap m) (N : News h₀ L s.heap news)
    (h : ∀ a b h', a < b → (∀ q ∈ news, q.1 < a) → Fr h₀ L h' m → News h₀ L h' ((b, matObj x t p lim m'.lastindex a) :: (a, spObj [m'.start, m'.handed]) :: news) → Q (.ref b) { s with heap := h' }) :
    wpAny (model prog w) A (reNewMatch (.ref p) (.str x t) 0 0 lim m') Q E s := by
  unfold reNewMatch
  dsimp only
  rw [show List.range 0 = [] from rfl]
  refine wpAny_ite ?_
  rw [if_neg (by simp)]
  refine wpAny_bind (wpAny_newObj_type ?_ (by simp [sizeOk, sizeLine]))
  refine wpAny_newObj_type ?_ (by simp [sizeOk, sizeLine])
  have F1 := F.push (spObj [m'.start, m'.handed])
  have N1 := N.push F (spObj [m'.start, m'.handed])
  refine h s.heap.objs.size _ _ ?_ (fun q hq => Heap.lt_size (N q hq).1) (F1.push _) (N1.push F1 _)
  show s.heap.objs.size < (s.heap.push _).objs.size
  rw [Heap.size_push]; exact Nat.lt_succ_self _
theorem newMatch1 {p : Addr} {x : Str} {t : Tok} {lim b0 e0 : Nat} {m' : Sre.M} {Q : Value → Shared → Prop} (F : Fr h₀ L s.heap m) (N : News h₀ L s.heap news)
    (hl : m'.lastmark = 1) (hm : m'.marks = #[some b0, some e0]) (hbe : b0 ≤ e0)
    (h : ∀ a b h', a < b → (∀ q ∈ news, q.1 < a) → Fr h₀ L h' m → News h₀ L h' ((b, matObj x t p lim m'.lastindex a) :: (a, spObj [m'.start, m'.handed, b0, e0]) :: news) → Q (.ref b) { s with heap := h' }) :
    wpAny (model prog w) A (reNewMatch (.ref p) (.str x t) 1 0 lim m') Q E s := by
  unfold reNewMatch
  dsimp only
  have e1 : List.range 1 = [0] := by decide
  have hlt : ¬ (e0 < b0) := by omega
  rw [e1, hl, hm]
  refine wpAny_ite ?_
  rw [if_neg (by simp [hlt])]
  refine wpAny_bind (wpAny_newObj_type ?_ (by simp [sizeOk, sizeLine]))
  refine wpAny_newObj_type ?_ (by simp [sizeOk, sizeLine])
  have F1 := F.push (spObj [m'.start, m'.handed, b0, e0])
  have N1 := N.push F (spObj [m'.start, m'.handed, b0, e0])
  refine h s.heap.objs.size _ _ ?_ (fun q hq => Heap.lt_size (N q hq).1) (F1.push _) (N1.push F1 _)
  show s.heap.objs.size < (s.heap.push _).objs.size
  rw [Heap.size_push]; exact Nat.lt_succ_self _

theorem wp_found {b a p : Addr} {x : Str} {t : Tok} {lim : Nat} {li : Int} {sp : List Int} {Q : ReFound → Shared → Prop}
    (hb : s.heap.get? b = some (matObj x t p lim li a)) (ha : s.heap.get? a = some (spObj sp))
    (h : Q { fields := #[.str x t, .ref p, rawInt (0 : Nat), rawInt lim, rawInt li, .ref a], spans := sp.toArray } s) : wpAny (model prog w) A (reFound (.ref b)) Q E s := by
  unfold reFound
  refine wpAny_bind (wpAny_fieldsOf hb rfl ?_)
  refine wpAny_bind (wp_rawItems (c := a) ha rfl (wpAny_pure ?_))
  have e : Array.map reRawOf (sp.map rawInt).toArray = sp.toArray := by
    rw [List.map_toArray, List.map_map]
    congr 1
    exact (List.map_congr_left (fun i _ => rfl)).trans (List.map_id _)
  rw [e]
  exact h

theorem wp_groupNo {x : ReFound} {i : Nat} {u : Tok} {Q : Nat → Shared → Prop} (hi : 2 * i < x.spans.size) (h : Q i s) : wpAny (model prog w) A (reGroupNumber x (.int (i : Int) u)) Q E s := by
  unfold reGroupNumber
  refine wpAny_bind (m := asInt? (.int (i : Int) u)) (wpAny_pure ?_)
  dsimp only [Option.isSome]
  simp only [if_true]
  refine wpAny_bind (m := asIndex (.int (i : Int) u)) ?_
  unfold asIndex
  refine wpAny_bind (m := asInt? (.int (i : Int) u)) (wpAny_pure ?_)
  refine wpAny_pure ?_
  have e : (decide ((i : Int) < 0) || decide (2 * (i : Int) ≥ (x.spans.size : Int))) = false := by
    simp only [Bool.or_eq_false_iff, decide_eq_false_iff_not]; omega
  refine wpAny_ite ?_
  rw [if_neg (by rw [e]; simp)]
  refine wpAny_pure ?_
  rw [Int.toNat_natCast]; exact h
end
end Mine
namespace Mine
open PySem.Builtin PySem.Builtin.Re
section
variable {prog : Program} {w : World} {A : Around} {E : Value → Shared → Prop} {s : Shared} {h₀ : Heap} {L : Addr} {m : Str → Option Value} {news : List (Addr × Obj)}
theorem call_span {b a p : Addr} {x : Str} {t u : Tok} {lim : Nat} {li st en : Int} {sp : List Int} {Q : Value → Shared → Prop}
    (hb : s.heap.get? b = some (matObj x t p lim li a)) (ha : s.heap.get? a = some (spObj (st :: en :: sp))) (F : Fr h₀ L s.heap m) (N : News h₀ L s.heap news)
    (h : ∀ c h' t1 t2 tk, (∀ q ∈ news, q.1 < c) → Fr h₀ L h' m → News h₀ L h' ((c, { cls := .type "tuple", data := .seq #[.int st t1, .int en t2] }) :: news) → Q (.ref c) { s with heap := h', toks := tk }) :
    wpAny (model prog w) A (call (.builtin "re.Match.span") [.ref b, .int 0 u]) Q E s := by
  refine call_by slot_span ⟨_, hb, rfl⟩ entry_span (args_span _ _) ?_
  unfold Builtin.«re.Match.span» reOneGroup
  refine wpAny_bind (wpAny_bind (m := selfAndSome _ _ 0 1 ⟨[.ref b, .int 0 u], []⟩) (wpAny_pure ?_))
  refine wpAny_bind (wp_found hb ha ?_)
  refine wpAny_bind (wp_groupNo (i := 0) (by simp) (wpAny_pure ?_))
  dsimp only
  refine wpAny_bind (wpAny_mkInt (wpAny_bind (wpAny_mkInt (wpAny_bind (wpAny_newObj_type ?_ (by simp [sizeOk, sizeLine]))))))
  refine wpAny_pure ⟨_, rfl, ?_⟩
  have e1 : (st :: en :: sp).toArray.getD (2 * 0) (-1) = st := by simp
  have e2 : (st :: en :: sp).toArray.getD (2 * 0 + 1) (-1) = en := by simp
  rw [e1, e2]
  exact h s.heap.objs.size _ _ _ _ (fun q hq => Heap.lt_size (N q hq).1) (F.push _) (N.push F _)
theorem call_group {b a p : Addr} {x : Str} {t u : Tok} {lim b0 e0 : Nat} {li st en : Int} {Q : Value → Shared → Prop}
    (hb : s.heap.get? b = some (matObj x t p lim li a)) (ha : s.heap.get? a = some (spObj [st, en, b0, e0])) (hx : x.length ≤ sizeLine)
    (h : ∀ t' k, Q (.str ⟨x.cps.extract b0 e0⟩ t') { s with toks := k }) :
    wpAny (model prog w) A (call (.builtin "re.Match.group") [.ref b, .int 1 u]) Q E s := by
  refine call_by slot_group ⟨_, hb, rfl⟩ entry_group (args_group _ _) ?_
  unfold Builtin.«re.Match.group»
  refine wpAny_bind (m := noKeywords _ _) (wpAny_pure ?_)
  dsimp only
  refine wpAny_bind (wp_found hb ha ?_)
  refine wpAny_bind (wp_groupNo (i := 1) (by simp) ?_)
  unfold reGroupText
  dsimp only
  have e1 : ([st, en, (b0 : Int), (e0 : Int)].toArray.getD (2 * 1) (-1)) = (b0 : Int) := by simp
  have e2 : ([st, en, (b0 : Int), (e0 : Int)].toArray.getD (2 * 1 + 1) (-1)) = (e0 : Int) := by simp
  rw [e1, e2]
  refine wpAny_bind (wpAny_ite ?_)
  rw [if_neg (by simp only [Bool.or_eq_true, decide_eq_true_eq]; omega)]
  refine wpAny_bind (m := reTextOf (.str x t)) ?_
  unfold reTextOf
  refine wpAny_bind (m := asStr? (.str x t)) (wpAny_pure (wpAny_pure ?_))
  dsimp only
  unfold reSlice
  rw [Int.toNat_natCast, Int.toNat_natCast]
  refine wpAny_ite ?_
  rw [if_pos (by decide)]
  refine wpAny_mkStr ?_ ?_
  · exact wpAny_pure ⟨_, rfl, h _ _⟩
  · have e : (Str.mk (x.cps.extract b0 e0)).length ≤ x.length := by
      show (x.cps.extract b0 e0).size ≤ x.cps.size
      rw [Array.size_extract]; omega
    omega
end

theorem slot_matga : Slot "re.Match" "__getattribute__" "object.__getattribute__" :=
  .of (owner := "object") (n := "__getattribute__") (by rw [typeLookup_type, builtinLookup_eq_fast]; kernel_rfl) (by decide +kernel) (by decide +kernel) (by decide +kernel)
    (by first | exact .inl (by decide +kernel) | exact .inr (by decide +kernel)) (by rw [isSubtype_type]; kernel_rfl)
theorem lk_string : typeLookup (.type "re.Match") "string" = pure (some (.builtin "re.Match.string")) := by rw [typeLookup_type, builtinLookup_eq_fast]; kernel_rfl
theorem type_string : typeOf (.builtin "re.Match.string") = pure (.type "member_descriptor") := by show builtinType _ = _; rw [builtinType_eq_fast]; kernel_rfl
theorem owner_string : (".".intercalate ("re.Match.string".cutAt '.').dropLast) = "re.Match" := by
  have e0 : "re.Match.string".cutAt '.' = ["re", "Match", "string"] := by first | rfl | decide +kernel
  rw [e0]; decide +kernel
theorem entry_oga : entryFor table "object.__getattribute__" = some Builtin.«object.__getattribute__» := entryFor_of_tree (by kernel_rfl)
theorem args_oga (a b : Value) : argsOk "object.__getattribute__" ⟨[a, b], []⟩ := by unfold argsOk; kernel_rfl
theorem sub_mat : isSubtype (.type "re.Match") (.type "re.Match") = pure true := by rw [isSubtype_type]; kernel_rfl
section
variable {prog : Program} {w : World} {A : Around} {E : Value → Shared → Prop} {h : Heap} {g : Array GenState} {d : Drawn} {t : Nat} {os : OsState} {b a p : Addr} {x : Str} {u : Tok} {lim : Nat} {li : Int}
theorem string_get {R : Result → Shared → Prop} (hb : h.get? b = some (matObj x u p lim li a)) (hq : R (.ok (.ret (.str x u))) ⟨h, g, d, t, os⟩) :
    codeAny (model prog w) A (.call (.builtin "member_descriptor.__get__") ⟨[.builtin "re.Match.string", .ref b, .type "re.Match"], []⟩) R ⟨h, g, d, t, os⟩ := by
  have hT : (⟨h, g, d, t, os⟩ : Shared).TypeIs (.ref b) "re.Match" := ⟨_, hb, rfl⟩
  have hT5 : (⟨h, g, d, t, os⟩ : Shared).TypeIs (.builtin "re.Match.string") "member_descriptor" := type_string
  have f8 : isSubtype (.type "re.Match") (.type (".".intercalate ("re.Match.string".cutAt '.').dropLast)) = pure true := by rw [owner_string]; exact sub_mat
  refine codeAny_call_builtin KF.slot_mem.plain KF.entry_mem (KF.slot_mem.check _ _ _ _ _ _ _ _ hT5 (KF.args_mem _ _ _) ?_)
  repeat (any_goals (first | assumption | wp_step))
  refine ⟨Code.quiet_builtin _ (by decide +kernel), codeAny_builtin entry_string ?_⟩
  unfold Builtin.«re.Match.string»
  repeat (any_goals (first | assumption | with_reducible refine wpAny_field hb rfl rfl ?_ | wp_step))

theorem string_entry {tk : Tok} {Q : Fin → Shared → Prop} (hb : h.get? b = some (matObj x u p lim li a)) (hq : Q (.done (.ret (.str x u))) ⟨h, g, d, t, os⟩) :
    wpAny (model prog w) A (Builtin.«object.__getattribute__» ⟨[.ref b, .str "string" tk], []⟩) Q E ⟨h, g, d, t, os⟩ := by
  have hT : (⟨h, g, d, t, os⟩ : Shared).TypeIs (.ref b) "re.Match" := ⟨_, hb, rfl⟩
  have hT5 : (⟨h, g, d, t, os⟩ : Shared).TypeIs (.builtin "re.Match.string") "member_descriptor" := type_string
  have f4 := lk_string
  have f5 := type_string
  have f6 := KF.slot_mem.lookup
  have f7 := KF.slot_mset.lookup
  repeat (any_goals (first | assumption | wp_step))
  refine string_get hb ?_
  repeat (any_goals (first | assumption | wp_step))
theorem string_call {tk : Tok} {R : Result → Shared → Prop} (hb : h.get? b = some (matObj x u p lim li a)) (hq : R (.ok (.ret (.str x u))) ⟨h, g, d, t, os⟩) :
    codeAny (model prog w) A (.call (.builtin "object.__getattribute__") ⟨[.ref b, .str "string" tk], []⟩) R ⟨h, g, d, t, os⟩ :=
  codeAny_call_builtin slot_matga.plain entry_oga (slot_matga.check _ _ _ _ _ _ _ _ (show (⟨h, g, d, t, os⟩ : Shared).TypeIs (.ref b) "re.Match" from ⟨_, hb, rfl⟩) (args_oga _ _) (string_entry hb hq))
theorem string_by {tk : Tok} {fill expr : Bool} {Q : Value → Shared → Prop} (hb : h.get? b = some (matObj x u p lim li a))
    (hq : Q (.str x u) ⟨h, g, d, t, os⟩) : wpAny (model prog w) A (getAttrBy (.ref b) (.str "string" tk) fill expr) Q E ⟨h, g, d, t, os⟩ := by
  have hT : (⟨h, g, d, t, os⟩ : Shared).TypeIs (.ref b) "re.Match" := ⟨_, hb, rfl⟩
  have f2 := slot_matga.lookup
  have f3 := slot_matga.bind (.ref b)
  have hx0 : (expr && onTheHeap (Value.builtin "object.__getattribute__")) = false := by cases expr <;> rfl
  repeat (any_goals (first | assumption | wp_step))
  refine string_call hb ?_
  repeat (any_goals (first | assumption | wp_step))
theorem string_attr0 {expr : Bool} {Q : Value → Shared → Prop} (hb : h.get? b = some (matObj x u p lim li a))
    (hq : Q (.str x u) ⟨h, g, d, t + 1, os⟩) : wpAny (model prog w) A (getAttr (.ref b) "string" expr) Q E ⟨h, g, d, t, os⟩ := by
  unfold getAttr
  repeat (any_goals (first | assumption | with_reducible apply string_by hb | wp_step))
theorem string_attr {s : Shared} {expr : Bool} {Q : Value → Shared → Prop} (hb : s.heap.get? b = some (matObj x u p lim li a))
    (hq : Q (.str x u) { s with toks := s.toks + 1 }) : wpAny (model prog w) A (getAttr (.ref b) "string" expr) Q E s := by
  obtain ⟨h, g, d, t, os⟩ := s
  exact string_attr0 hb hq
end
end Mine
namespace Mine
def headV : Array Value := #[.int 14 0, .int 4 0, .int 0 0, .int 1 0, .int 4294967295 0, .int 6 0, .int 0 0, .int 24 0, .int 9 0, .int 0 0, .int 4294967295 0, .int 13 0, .int 4 0, .int 8 0, .int 12 0, .int 0 0, .int 1 0, .int 17 0, .int 0 0, .int 24 0, .int 19 0, .int 1 0, .int 4294967295 0, .int 13 0, .int 14 0, .int 21 0, .int 9 0, .int 0 0, .int 671092736 0, .int 0 0, .int 0 0, .int 0 0, .int 0 0, .int 0 0, .int 0 0, .int 8 0, .int 12 0, .int 0 0, .int 1 0, .int 17 0, .int 1 0, .int 1 0]
def ipv4V : Array Value := #[.int 14 0, .int 8 0, .int 1 0, .int 2 0, .int 4294967295 0, .int 1 0, .int 1 0, .int 46 0, .int 0 0, .int 16 0, .int 46 0, .int 24 0, .int 9 0, .int 1 0, .int 4294967295 0, .int 13 0, .int 4 0, .int 8 0, .int 0 0, .int 0 0, .int 1 0, .int 6 0, .int 5 0, .int 1 0]
theorem lk42 (P : Params) : (Mine.hd.heap_39 P).lookup 42 = some { cls := .type "tuple", data := .seq headV } := by kernel_rfl
theorem lk43 (P : Params) : (Mine.hd.heap_39 P).lookup 43 = some { cls := .type "re.Pattern", data := .fields #[.str "^\\s*([^=\\s;,]+)" 294, .int 32 339, .int (1 : Nat) 0, .none, .none, .ref 42, .int 0 0] } := by kernel_rfl
theorem lk47 (P : Params) : (Mine.hd.heap_39 P).lookup 47 = some { cls := .type "tuple", data := .seq ipv4V } := by kernel_rfl
theorem lk48 (P : Params) : (Mine.hd.heap_39 P).lookup 48 = some { cls := .type "re.Pattern", data := .fields #[.str "\\.\\d+$" 342, .int 256 369, .int (0 : Nat) 0, .none, .none, .ref 47, .int 0 0] } := by kernel_rfl
end Mine
namespace Mine
/-- a text out of its signs' numbers -/
def S (l : List Nat) : Str := ⟨l.toArray⟩
theorem S_len (l : List Nat) : (S l).length = l.length := by simp [S, Str.length]
/-- the text that a stack is, its top first -/
def enc (st : List Nat) : List Nat := 120 :: st.reverse.flatMap fun d => [46, d]
/-- the stacks that can be: rising from the top down -/
def subl : List Nat → List (List Nat)
  | [] => [[]]
  | a :: r => subl r ++ (subl r).map (a :: ·)
def stks : List (List Nat) := subl [49, 50, 51, 52, 53, 54]
def ipv4 : Array Nat := #[14, 8, 1, 2, 4294967295, 1, 1, 46, 0, 16, 46, 24, 9, 1, 4294967295, 13, 4, 8, 0, 0, 1, 6, 5, 1]
def head : Array Nat := #[14, 4, 0, 1, 4294967295, 6, 0, 24, 9, 0, 4294967295, 13, 4, 8, 12, 0, 1, 17, 0, 24, 19, 1, 4294967295, 13, 14, 21, 9, 0, 671092736, 0, 0, 0, 0, 0, 0, 8, 12, 0, 1, 17, 1, 1]
def ipv4At (x : List Nat) : Sre.M := (Sre.forSearch ipv4 x.toArray 0 0 x.length false).runFor (4 * 40)
def ipv4Ok (st : List Nat) : Bool :=
  let m := ipv4At (enc st)
  match st with
  | [] => (m.outcome matches some .failed)
  | _ :: _ => (m.outcome matches some .matched) && m.start == (enc st).length - 2 && m.handed == (enc st).length
theorem ipv4_all : ∀ st ∈ stks, ipv4Ok st = true := by decide +kernel
end Mine
namespace Mine
open PySem.Builtin PySem.Builtin.Re
theorem ipv4V_code : (ipv4V.map reRawOf).map (·.toNat) = ipv4 := by decide +kernel
theorem headV_code : (headV.map reRawOf).map (·.toNat) = head := by decide +kernel
theorem stk_len : ∀ st ∈ stks, (enc st).length ≤ 13 := by decide +kernel
section
variable {prog : Program} {w : World} {A : Around} {E : Value → Shared → Prop} {s : Shared} {h₀ : Heap} {L : Addr} {m : Str → Option Value} {news : List (Addr × Obj)}
theorem k_meth43 {pl : Sem Bool} {Q : Value × List Value → Shared → Prop} (F : Fr h₀ L s.heap m) (X₀ : (Mine.hd.heap_39 w.params).In h₀)
    (h : Q (.builtin "re.Pattern.search", [.ref 43]) s) : wpAny (model prog w) A (getMethod (.ref 43) "search" pl) Q E s :=
  meth_search ((X₀.keeps F.keep) _ _ (lk43 _)) rfl rfl h
theorem k_meth48 {pl : Sem Bool} {Q : Value × List Value → Shared → Prop} (F : Fr h₀ L s.heap m) (X₀ : (Mine.hd.heap_39 w.params).In h₀)
    (h : Q (.builtin "re.Pattern.search", [.ref 48]) s) : wpAny (model prog w) A (getMethod (.ref 48) "search" pl) Q E s :=
  meth_search ((X₀.keeps F.keep) _ _ (lk48 _)) rfl rfl h
theorem k_ipv4_none {t : Tok} {Q : Value → Shared → Prop} (F : Fr h₀ L s.heap m) (X₀ : (Mine.hd.heap_39 w.params).In h₀)
    (h : Q .none s) : wpAny (model prog w) A (call (.builtin "re.Pattern.search") [.ref 48, .str (S (enc [])) t]) Q E s := by
  have X := X₀.keeps F.keep
  refine search_of (n := 40) (X _ _ (lk48 _)) rfl rfl (X _ _ (lk47 _)) rfl (by decide) (by decide) rfl (.inr ⟨?_, h⟩)
  rw [ipv4V_code]
  have := ipv4_all [] (by decide)
  exact this
theorem k_ipv4_some {c : Nat} {r : List Nat} {t : Tok} {Q : Value → Shared → Prop} (hd : c :: r ∈ stks) (F : Fr h₀ L s.heap m) (N : News h₀ L s.heap news) (X₀ : (Mine.hd.heap_39 w.params).In h₀)
    (h : ∀ a b h' li, a < b → (∀ q ∈ news, q.1 < a) → Fr h₀ L h' m → News h₀ L h' ((b, matObj (S (enc (c :: r))) t 48 (enc (c :: r)).length li a) :: (a, spObj [((enc r).length : Int), ((enc (c :: r)).length : Int)]) :: news) → Q (.ref b) { s with heap := h' }) :
    wpAny (model prog w) A (call (.builtin "re.Pattern.search") [.ref 48, .str (S (enc (c :: r))) t]) Q E s := by
  have X := X₀.keeps F.keep
  have hl := stk_len _ hd
  have hk := ipv4_all _ hd
  have el : (S (enc (c :: r))).length = (enc (c :: r)).length := S_len _
  have er : (enc r).length = (enc (c :: r)).length - 2 := by simp [enc]
  refine search_of (n := 40) (X _ _ (lk48 _)) rfl rfl (X _ _ (lk47 _)) rfl (by rw [el]; omega) (by decide) rfl ?_
  rw [ipv4V_code, el]
  unfold ipv4Ok at hk
  simp only [Bool.and_eq_true, beq_iff_eq] at hk
  obtain ⟨⟨h1, h2⟩, h3⟩ := hk
  refine .inl ⟨h1, newMatch0 F N ?_⟩
  show ∀ a b h', a < b → (∀ q ∈ news, q.1 < a) → Fr h₀ L h' m → News h₀ L h' ((b, matObj _ t 48 _ (ipv4At (enc (c :: r))).lastindex a) :: (a, spObj [((ipv4At (enc (c :: r))).start : Int), ((ipv4At (enc (c :: r))).handed : Int)]) :: news) → Q (.ref b) { s with heap := h' }
  rw [h2, h3, ← er]
  intro a b h' hab hn F' N'
  exact h a b h' _ hab hn F' N'

theorem truthy_match {b : Addr} {o : Obj} {Q : Bool → Shared → Prop} (hb : s.heap.get? b = some o) (hc : o.cls = .type "re.Match") (h : Q true s) : wpAny (model prog w) A (truthy (.ref b)) Q E s := by
  have e1 : typeLookup (.type "re.Match") "__bool__" = pure none := by rw [typeLookup_type, builtinLookup_eq_fast]; kernel_rfl
  have e2 : typeLookup (.type "re.Match") "__len__" = pure none := by rw [typeLookup_type, builtinLookup_eq_fast]; kernel_rfl
  have hT : s.TypeIs (.ref b) "re.Match" := ⟨o, hb, hc⟩
  unfold truthy
  refine wpAny_bind (m := callSpecial? (.ref b) (Str.ofString "__bool__")) (wpAny_bind (wpAny_specialOf hT e1 (wpAny_pure ?_)))
  refine wpAny_bind (wpAny_specialOf hT e2 ?_)
  exact wpAny_pure h
end
end Mine
namespace Mine
theorem S_cps (l : List Nat) : (S l).cps.toList = l := by simp [S]
theorem S_app (a b : List Nat) : S a ++ S b = S (a ++ b) := by
  show Str.append (S a) (S b) = _
  simp [Str.append, S]
theorem S_inj {a b : List Nat} (h : S a = S b) : a = b := by
  have := congrArg (fun x : Str => x.cps.toList) h
  simpa [S] using this
theorem slc_ss (l : List Nat) {i j : Nat} (hij : i ≤ j) (hj : j ≤ l.length) : Txt.slice (S l) (some (i : Int)) (some (j : Int)) = S ((l.drop i).take (j - i)) := by
  have h := PySem.StrLaws.sliceText_nat (S l) (a := i) (b := j) hij (by rw [S_len]; exact hj)
  rw [S_cps] at h
  exact h
theorem slc_to (l : List Nat) {j : Nat} (hj : j ≤ l.length) : Txt.slice (S l) none (some (j : Int)) = S (l.take j) := by
  have h := PySem.StrLaws.sliceText_to (x := S l) (j := (j : Int)) ⟨by omega, by rw [S_cps]; omega⟩
  rw [S_cps] at h
  have e : ((j : Int) - 0).toNat = j := by omega
  rw [e, List.drop_zero] at h
  exact h
theorem slc_from (l : List Nat) {i : Nat} (hi : i ≤ l.length) : Txt.slice (S l) (some (i : Int)) none = S (l.drop i) := by
  have h := PySem.StrLaws.sliceText_from (x := S l) (i := (i : Int)) ⟨by omega, by rw [S_cps]; omega⟩
  rw [S_cps] at h
  have e : ((i : Int)).toNat = i := by omega
  have e2 : ((l.length : Int) - (i : Int)).toNat = (l.drop i).length := by rw [List.length_drop]; omega
  rw [e, e2, List.take_length] at h
  exact h
end Mine
namespace Mine
open PySem.Builtin PySem.Builtin.Str
def find4 (x y : Str) (i j : Int) : Int := match occurrences x y (fromIndex x.length i) (min (fromIndex x.length j) x.length) 1 with | k :: _ => (k : Int) | [] => -1
def rfind4 (x y : Str) (i j : Int) : Int := match lastOccurrence x y (fromIndex x.length i) (min (fromIndex x.length j) x.length) with | some k => (k : Int) | none => -1
theorem gives_find4 (x y : Str) (i j : Int) (t u v v' : Tok) : Gives («str.find» ⟨[.str x t, .str y u, .int i v, .int j v'], []⟩) (.int (find4 x y i j)) := by
  show Gives (match occurrences x y (fromIndex x.length i) (min (fromIndex x.length j) x.length) 1 with | k :: _ => retInt k | [] => (do rule "str.find.not-found"; retInt (-1))) _
  unfold find4
  cases occurrences x y (fromIndex x.length i) (min (fromIndex x.length j) x.length) 1 with
  | nil => exact .rule (.of_eq rfl)
  | cons k _ => exact .of_eq rfl
theorem gives_rfind4 (x y : Str) (i j : Int) (t u v v' : Tok) : Gives («str.rfind» ⟨[.str x t, .str y u, .int i v, .int j v'], []⟩) (.int (rfind4 x y i j)) := by
  show Gives (match lastOccurrence x y (fromIndex x.length i) (min (fromIndex x.length j) x.length) with | some k => retInt k | none => (do rule "str.rfind.not-found"; retInt (-1))) _
  unfold rfind4
  cases lastOccurrence x y (fromIndex x.length i) (min (fromIndex x.length j) x.length) with
  | none => exact .rule (.of_eq rfl)
  | some k => exact .of_eq rfl
section
variable {prog : Program} {w : World} {A : Around} {E : Value → Shared → Prop} {s : Shared} {x y : Str} {t u v v' : Tok} {i j r : Int} {Q : Value → Shared → Prop}
theorem find2_at (hr : Txt.find x y = r) (hq : Q (.int r s.toks) { s with toks := s.toks + 1 }) : wpAny (model prog w) A (call (.builtin "str.find") [.str x t, .str y u]) Q E s := by
  subst hr; exact SC.find hq
theorem find4_at (hr : find4 x y i j = r) (hq : Q (.int r s.toks) { s with toks := s.toks + 1 }) : wpAny (model prog w) A (call (.builtin "str.find") [.str x t, .str y u, .int i v, .int j v']) Q E s := by
  subst hr; exact call_gives F.slot_str_find (typeIs_str _ _ _) F.entry_str_find (F.args_str_find_4 _ _ _ _) (gives_find4 x y i j t u v v') hq
theorem rfind4_at (hr : rfind4 x y i j = r) (hq : Q (.int r s.toks) { s with toks := s.toks + 1 }) : wpAny (model prog w) A (call (.builtin "str.rfind") [.str x t, .str y u, .int i v, .int j v']) Q E s := by
  subst hr; exact call_gives F.slot_str_rfind (typeIs_str _ _ _) F.entry_str_rfind (F.args_str_rfind_4 _ _ _ _) (gives_rfind4 x y i j t u v v') hq
theorem find4_to {j' : Int} (hr : find4 x y i j' = r) (hj : j = j') (hq : Q (.int r s.toks) { s with toks := s.toks + 1 }) : wpAny (model prog w) A (call (.builtin "str.find") [.str x t, .str y u, .int i v, .int j v']) Q E s := by
  subst hj; exact find4_at hr hq
theorem rfind4_to {j' : Int} (hr : rfind4 x y i j' = r) (hj : j = j') (hq : Q (.int r s.toks) { s with toks := s.toks + 1 }) : wpAny (model prog w) A (call (.builtin "str.rfind") [.str x t, .str y u, .int i v, .int j v']) Q E s := by
  subst hj; exact rfind4_at hr hq
end
def stripOk (d : List Nat) : Bool := match d with
  | [] => true
  | c :: _ => Txt.find (S (enc d)) "\n" == -1 && find4 (S (enc d)) ":" 0 (enc d).length == -1 && rfind4 (S (enc d)) "." 0 (enc d).length == ((enc d).length - 2 : Nat)
    && ((enc d).drop ((enc d).length - 1)) == [c]
theorem strip_all : ∀ d ∈ stks, stripOk d = true := by decide +kernel
end Mine
namespace Mine
/-- what holds between a loop's turns: the ledger, the stored names' values, what is said of them -/
def KS {σ : Type} (Led : σ → List (Addr × Obj)) (ps : σ → List (Str × Value)) (x : Str) (stored : List Str) (m₀ : Str → Option Value) (P : Nat → σ → Prop) (i : Nat) (m : Str → Option Value) (nx : List (Addr × Obj)) : Prop :=
  ∃ c : σ, nx = Led c ∧ (∀ p ∈ ps c, m p.1 = some p.2) ∧ (∀ z, z ≠ x → (∀ p ∈ ps c, z ≠ p.1) → stored.contains z = false → m z = m₀ z) ∧ P i c
/-- a goal that the walk leaves standing -/
def Hold (p : Prop) : Prop := p
theorem hold_of {p : Prop} (h : Hold p) : p := h
theorem of_hold {p : Prop} (h : p) : Hold p := h
/-- what a turn must end in -/
def MEnd (h₀ : Heap) (L : Addr) (J : (Str → Option Value) → List (Addr × Obj) → Prop) (own : List (Addr × Obj)) (adr : List Addr) (s₁ s₂ : Shared) : Prop := InvEndN h₀ L J own adr s₁ s₂
def MPost (h₀ : Heap) (L : Addr) (J : (Str → Option Value) → List (Addr × Obj) → Prop) (own : List (Addr × Obj)) (adr : List Addr) (s₁ : Shared) (Q : Flow → Shared → Prop) (f : Flow) (s₂ : Shared) : Prop :=
  match f with
  | .ret v => Q (.ret v) s₂
  | .brk => Q .next s₂
  | _ => MEnd h₀ L J own adr s₁ s₂
theorem mpost_of {h₀ : Heap} {L : Addr} {J : (Str → Option Value) → List (Addr × Obj) → Prop} {own : List (Addr × Obj)} {adr : List Addr} {s₁ : Shared} {Q : Flow → Shared → Prop} {f : Flow} {s₂ : Shared} (h : MPost h₀ L J own adr s₁ Q f s₂) : InvPostN h₀ L J own adr s₁ Q f s₂ := by
  cases f <;> exact h
section
variable {prog : Program} {w : World} {A : Around} {E : Value → Shared → Prop} {s : Shared} {env : Env} {h₀ : Heap} {x : Str} {body : List Stmt} {Q : Flow → Shared → Prop}
theorem ks_end {σ : Type} {Led : σ → List (Addr × Obj)} {ps : σ → List (Str × Value)} {stored : List Str} {m₀ : Str → Option Value} {P : Nat → σ → Prop} {i : Nat} (c : σ) {L : Addr} {m' : Str → Option Value} {own news' : List (Addr × Obj)} {adr : List Addr} {s₁ : Shared} {h' : Heap} {tk : Nat}
    (F : Fr h₀ L h' m') (N : News h₀ L h' news') (hn : ∀ p ∈ Led c, p ∈ news') (ho : ∀ p ∈ own, p ∈ news') (ha : (Led c).map (·.1) = adr) (hk : ∀ p ∈ ps c, m' p.1 = some p.2) (hr : ∀ z, z ≠ x → (∀ p ∈ ps c, z ≠ p.1) → stored.contains z = false → m' z = m₀ z) (hp : P i c) :
    MEnd h₀ L (KS Led ps x stored m₀ P i) own adr s₁ { s₁ with heap := h', toks := tk } :=
  InvEndN.intro F N ⟨c, rfl, hk, hr, hp⟩ ha hn ho

theorem my_range {σ : Type} {r : Addr} {a₀ b₀ : Int} {t₀ u₀ v₀ : Tok} (n : Nat) {m₀ : Str → Option Value} (Led : σ → List (Addr × Obj)) (ps : σ → List (Str × Value)) (stored : List Str) (P : Nat → σ → Prop) (c₀ : σ)
    (hh : A.handled = none) (hr : IsRange s.heap r a₀ b₀ 1 t₀ u₀ v₀) (hsmall : Builtin.Range.small a₀ b₀ 1 = true) (hn : Builtin.Range.rangeSize a₀ b₀ 1 = (n : Int)) (F : Fr h₀ env.locals s.heap m₀) (N : News h₀ env.locals s.heap (Led c₀)) (hk : ∀ p ∈ ps c₀, m₀ p.1 = some p.2) (hp : P 0 c₀)
    (turn : ∀ (c : σ) (i : Nat) t (u : Str → Option Value) h tk own, i < n → OwnOff own ((Led c₀).map (·.1)) → P i c →
      Fr h₀ env.locals h (fun y => if y = x then some (.int (a₀ + i) t) else kstB (fun z => if stored.contains z then u z else m₀ z) (ps c) y) → News h₀ env.locals h (Led c ++ own) →
      wpAny (model prog w) A (execs body env) (MPost h₀ env.locals (KS Led ps x stored m₀ P (i + 1)) own ((Led c₀).map (·.1)) { s with heap := h, toks := tk } Q) E { s with heap := h, toks := tk })
    (done : ∀ (c : σ) (u : Str → Option Value) h tk, P n c → Fr h₀ env.locals h (fun y => if y = x then u y else kstB (fun z => if stored.contains z then u z else m₀ z) (ps c) y) → News h₀ env.locals h (Led c) → Q .next { s with heap := h, toks := tk }) :
    wpAny (model prog w) A (pyIter (.ref r)) (fun it s₂ => LoopAtV prog w A h₀ env x body Q E it s₂) E s := by
  refine wpAny_pyIter_range hr hsmall ?_
  have W : Walks prog w A s.heap.objs.size [s.heap.objs.size] [s.heap.objs.size] n (fun i v => i < n ∧ ∃ t, v = .int (a₀ + i * 1) t)
      (fun i h => IsRangeIter h s.heap.objs.size (a₀ + (i : Nat) * 1) ((n : Int) - (i : Nat)) 1) := (Walks.range hh _ a₀ 1 n).bound
  refine loop_invN (KS Led ps x stored m₀ P) W ?_ ?_ ?_ ?_ (by show IsRangeIter _ _ _ _ _; rw [hn]; simpa using Heap.get?_push_size _ rfl) (F.push _) (fun p hp => ⟨Heap.get?_push_of_some _ (N p hp).1, (N p hp).2⟩) ⟨c₀, rfl, hk, fun _ _ _ _ => rfl, hp⟩ ?_ ?_
  · intro hm; exact absurd F.ns.lt ((List.mem_singleton.mp hm) ▸ Nat.lt_irrefl _)
  · intro b hb; rw [List.mem_singleton.mp hb]; exact next_is_new F
  · intro p hp hI; exact absurd (Heap.lt_size (N p hp).1) ((List.mem_singleton.mp hI) ▸ Nat.lt_irrefl _)
  · intro p hp hI; exact absurd (Heap.lt_size (N p hp).1) ((List.mem_singleton.mp hI) ▸ Nat.lt_irrefl _)
  · rintro i v m₁ nx h tk own hi ⟨_, t, rfl⟩ _ hoff ⟨c, rfl, h1, h2, hp'⟩ F₁ N₁
    rw [Int.mul_one] at F₁
    exact wpAny_mono (turn c i t m₁ h tk own hi hoff hp' (kst_fr h1 h2 F₁) N₁) (fun _ _ p => mpost_of p) fun _ _ e => e
  · rintro m₁ nx h tk ⟨c, rfl, h1, h2, hp'⟩ F₁ N₁
    exact done c m₁ h tk hp' (kst_frOut h1 h2 F₁) N₁

theorem my_text {σ : Type} {l : List Nat} {tx : Tok} {m₀ : Str → Option Value} (Led : σ → List (Addr × Obj)) (ps : σ → List (Str × Value)) (stored : List Str) (P : Nat → σ → Prop) (c₀ : σ)
    (hh : A.handled = none) (F : Fr h₀ env.locals s.heap m₀) (N : News h₀ env.locals s.heap (Led c₀)) (hk : ∀ p ∈ ps c₀, m₀ p.1 = some p.2) (hp : P 0 c₀)
    (turn : ∀ (c : σ) (i : Nat) (n : Nat) t (u : Str → Option Value) h tk own, l[i]? = some n → OwnOff own ((Led c₀).map (·.1)) → P i c →
      Fr h₀ env.locals h (fun y => if y = x then some (.str (S [n]) t) else kstB (fun z => if stored.contains z then u z else m₀ z) (ps c) y) → News h₀ env.locals h (Led c ++ own) →
      wpAny (model prog w) A (execs body env) (MPost h₀ env.locals (KS Led ps x stored m₀ P (i + 1)) own ((Led c₀).map (·.1)) { s with heap := h, toks := tk } Q) E { s with heap := h, toks := tk })
    (done : ∀ (c : σ) (u : Str → Option Value) h tk, P l.length c → Fr h₀ env.locals h (fun y => if y = x then u y else kstB (fun z => if stored.contains z then u z else m₀ z) (ps c) y) → News h₀ env.locals h (Led c) → Q .next { s with heap := h, toks := tk }) :
    wpAny (model prog w) A (pyIter (.str (S l) tx)) (fun it s₂ => LoopAtV prog w A h₀ env x body Q E it s₂) E s := by
  refine wpAny_pyIter_str fun o St hW hst => ?_
  have W := hW A hh
  have el : (S l).cps.size = l.length := by simp [S]
  rw [el] at W
  refine loop_invN (KS Led ps x stored m₀ P) W ?_ ?_ ?_ ?_ hst (F.push _) (fun p hp => ⟨Heap.get?_push_of_some _ (N p hp).1, (N p hp).2⟩) ⟨c₀, rfl, hk, fun _ _ _ _ => rfl, hp⟩ ?_ ?_
  · intro hm; exact absurd F.ns.lt ((List.mem_singleton.mp hm) ▸ Nat.lt_irrefl _)
  · intro b hb; rw [List.mem_singleton.mp hb]; exact next_is_new F
  · intro p hp hI; exact absurd (Heap.lt_size (N p hp).1) ((List.mem_singleton.mp hI) ▸ Nat.lt_irrefl _)
  · intro p hp hI; exact absurd (Heap.lt_size (N p hp).1) ((List.mem_singleton.mp hI) ▸ Nat.lt_irrefl _)
  · rintro i v m₁ nx h tk own hi ⟨n, u, hn, rfl⟩ _ hoff ⟨c, rfl, h1, h2, hp'⟩ F₁ N₁
    exact wpAny_mono (turn c i n u m₁ h tk own (by simpa [S] using hn) hoff hp' (kst_fr h1 h2 F₁) N₁) (fun _ _ p => mpost_of p) fun _ _ e => e
  · rintro m₁ nx h tk ⟨c, rfl, h1, h2, hp'⟩ F₁ N₁
    exact done c m₁ h tk hp' (kst_frOut h1 h2 F₁) N₁

theorem my_list {σ : Type} {l : Addr} {vs : List Value} {nn : Nat} {m₀ : Str → Option Value} (Led : σ → List (Addr × Obj)) (ps : σ → List (Str × Value)) (stored : List Str) (P : Nat → σ → Prop) (c₀ : σ)
    (hh : A.handled = none) (hl : ∀ c, (l, listOf vs.toArray nn) ∈ Led c) (F : Fr h₀ env.locals s.heap m₀) (N : News h₀ env.locals s.heap (Led c₀)) (hk : ∀ p ∈ ps c₀, m₀ p.1 = some p.2) (hp : P 0 c₀)
    (turn : ∀ (c : σ) (i : Nat) (v : Value) (u : Str → Option Value) h tk own, vs[i]? = some v → OwnOff own ((Led c₀).map (·.1)) → P i c →
      Fr h₀ env.locals h (fun y => if y = x then some v else kstB (fun z => if stored.contains z then u z else m₀ z) (ps c) y) → News h₀ env.locals h (Led c ++ own) →
      wpAny (model prog w) A (execs body env) (MPost h₀ env.locals (KS Led ps x stored m₀ P (i + 1)) own ((Led c₀).map (·.1)) { s with heap := h, toks := tk } Q) E { s with heap := h, toks := tk })
    (done : ∀ (c : σ) (u : Str → Option Value) h tk, P vs.length c → Fr h₀ env.locals h (fun y => if y = x then u y else kstB (fun z => if stored.contains z then u z else m₀ z) (ps c) y) → News h₀ env.locals h (Led c) → Q .next { s with heap := h, toks := tk }) :
    wpAny (model prog w) A (pyIter (.ref l)) (fun it s₂ => LoopAtV prog w A h₀ env x body Q E it s₂) E s := by
  refine iter_listUnr hh F N (hl c₀) rfl rfl fun I hI => ?_
  have key : ∀ (r : List Value) (i : Nat) (m₁ : Str → Option Value) (nx : List (Addr × Obj)), r = vs.drop i → i ≤ vs.length → nx.map (·.1) = (Led c₀).map (·.1) → KS Led ps x stored m₀ P i m₁ nx → ListRest prog w A E h₀ env x body Q s I (l, listOf vs.toArray nn) r m₁ nx := by
    intro r
    induction r with
    | nil =>
      intro i m₁ nx e hi _ hK h tk F₁ N₁
      have e2 : i = vs.length := by
        have := congrArg List.length e
        simp only [List.length_nil, List.length_drop] at this
        omega
      subst e2
      obtain ⟨c, rfl, h1, h2, hp'⟩ := hK
      exact done c m₁ h tk hp' (kst_frOut h1 h2 F₁) N₁
    | cons v r ih =>
      intro i m₁ nx e hi hadr hK it h tk hit F₁ N₁
      have hlt : i < vs.length := by
        have := congrArg List.length e
        simp only [List.length_cons, List.length_drop] at this
        omega
      have hv : vs[i]? = some v := by
        have := congrArg (·[0]?) e
        simpa using this.symm
      have er : r = vs.drop (i + 1) := by
        have := congrArg List.tail e
        simpa using this
      obtain ⟨c, rfl, h1, h2, hp'⟩ := hK
      have hoff : OwnOff [(I, it)] ((Led c₀).map (·.1)) := by
        intro p hp b hb e
        obtain ⟨q, hq, rfl⟩ := List.mem_map.mp hb
        rw [List.mem_singleton.mp hp] at e
        exact absurd (hI q hq) (by rw [← e]; exact Nat.lt_irrefl _)
      have N₂ : News h₀ env.locals h (Led c ++ [(I, it)]) := fun p hp => N₁ p ((List.mem_append.mp hp).elim (fun h => .tail _ h) fun h => by rw [List.mem_singleton.mp h]; exact .head _)
      refine wpAny_mono (turn c i v m₁ h tk [(I, it)] hv hoff hp' (kst_fr h1 h2 F₁) N₂) (fun f s₂ p => ?_) fun _ _ e => e
      replace p := mpost_of p
      have fin : InvEndN h₀ env.locals (KS Led ps x stored m₀ P (i + 1)) [(I, it)] ((Led c₀).map (·.1)) { s with heap := h, toks := tk } s₂ →
          UnrEnd h₀ env.locals { s with heap := h, toks := tk } I it (fun m' n' => (l, listOf vs.toArray nn) ∈ n' ∧ ListRest prog w A E h₀ env x body Q s I (l, listOf vs.toArray nn) r m' n') s₂ := by
        rintro ⟨h', tk', m', news', nx, e', F', N', hn, ho, ha, hm⟩
        refine ⟨h', tk', m', nx, e', F', fun p hp => ?_, fun p hp he => ?_, ?_, ih (i + 1) m' nx er hlt ha hm⟩
        · rcases List.mem_cons.mp hp with rfl | hp
          · exact N' _ (ho _ (.head _))
          · exact N' _ (hn _ hp)
        · have h3 : p.1 ∈ nx.map (·.1) := List.mem_map.mpr ⟨p, hp, rfl⟩
          rw [ha] at h3
          exact hoff (I, it) (.head _) p.1 h3 he.symm
        · obtain ⟨c', rfl, _⟩ := hm
          exact hl c'
      cases f with
      | ret v => exact p
      | brk => exact p
      | next => exact fin p
      | cont => exact fin p
  exact key vs 0 m₀ (Led c₀) (by simp) (Nat.zero_le _) rfl ⟨c₀, rfl, hk, fun _ _ _ _ => rfl, hp⟩

theorem my_rangeC {σ : Type} {r : Addr} {a₀ b₀ : Int} {t₀ u₀ v₀ : Tok} (n : Nat) {m₀ : Str → Option Value} {news : List (Addr × Obj)} (ps : σ → List (Str × Value)) (stored : List Str) (P : Nat → σ → Prop) (c₀ : σ)
    (hh : A.handled = none) (hr : IsRange s.heap r a₀ b₀ 1 t₀ u₀ v₀) (hsmall : Builtin.Range.small a₀ b₀ 1 = true) (hn : Builtin.Range.rangeSize a₀ b₀ 1 = (n : Int)) (F : Fr h₀ env.locals s.heap m₀) (N : News h₀ env.locals s.heap news) (hk : ∀ p ∈ ps c₀, m₀ p.1 = some p.2) (hp : P 0 c₀)
    (turn : ∀ (c : σ) (i : Nat) t (u : Str → Option Value) h tk own, i < n → OwnOff own (news.map (·.1)) → P i c →
      Fr h₀ env.locals h (fun y => if y = x then some (.int (a₀ + i) t) else kstB (fun z => if stored.contains z then u z else m₀ z) (ps c) y) → News h₀ env.locals h (news ++ own) →
      wpAny (model prog w) A (execs body env) (MPost h₀ env.locals (KS (fun _ => news) ps x stored m₀ P (i + 1)) own (news.map (·.1)) { s with heap := h, toks := tk } Q) E { s with heap := h, toks := tk })
    (done : ∀ (c : σ) (u : Str → Option Value) h tk, P n c → Fr h₀ env.locals h (fun y => if y = x then u y else kstB (fun z => if stored.contains z then u z else m₀ z) (ps c) y) → News h₀ env.locals h news → Q .next { s with heap := h, toks := tk }) :
    wpAny (model prog w) A (pyIter (.ref r)) (fun it s₂ => LoopAtV prog w A h₀ env x body Q E it s₂) E s :=
  my_range n (fun _ => news) ps stored P c₀ hh hr hsmall hn F N hk hp turn done
theorem my_textC {σ : Type} {l : List Nat} {tx : Tok} {m₀ : Str → Option Value} {news : List (Addr × Obj)} (ps : σ → List (Str × Value)) (stored : List Str) (P : Nat → σ → Prop) (c₀ : σ)
    (hh : A.handled = none) (F : Fr h₀ env.locals s.heap m₀) (N : News h₀ env.locals s.heap news) (hk : ∀ p ∈ ps c₀, m₀ p.1 = some p.2) (hp : P 0 c₀)
    (turn : ∀ (c : σ) (i : Nat) (n : Nat) t (u : Str → Option Value) h tk own, l[i]? = some n → OwnOff own (news.map (·.1)) → P i c →
      Fr h₀ env.locals h (fun y => if y = x then some (.str (S [n]) t) else kstB (fun z => if stored.contains z then u z else m₀ z) (ps c) y) → News h₀ env.locals h (news ++ own) →
      wpAny (model prog w) A (execs body env) (MPost h₀ env.locals (KS (fun _ => news) ps x stored m₀ P (i + 1)) own (news.map (·.1)) { s with heap := h, toks := tk } Q) E { s with heap := h, toks := tk })
    (done : ∀ (c : σ) (u : Str → Option Value) h tk, P l.length c → Fr h₀ env.locals h (fun y => if y = x then u y else kstB (fun z => if stored.contains z then u z else m₀ z) (ps c) y) → News h₀ env.locals h news → Q .next { s with heap := h, toks := tk }) :
    wpAny (model prog w) A (pyIter (.str (S l) tx)) (fun it s₂ => LoopAtV prog w A h₀ env x body Q E it s₂) E s :=
  my_text (fun _ => news) ps stored P c₀ hh F N hk hp turn done
theorem my_listC {σ : Type} {l : Addr} {vs : List Value} {nn : Nat} {m₀ : Str → Option Value} {news : List (Addr × Obj)} (ps : σ → List (Str × Value)) (stored : List Str) (P : Nat → σ → Prop) (c₀ : σ)
    (hh : A.handled = none) (F : Fr h₀ env.locals s.heap m₀) (N : News h₀ env.locals s.heap news) (hl : (l, listOf vs.toArray nn) ∈ news) (hk : ∀ p ∈ ps c₀, m₀ p.1 = some p.2) (hp : P 0 c₀)
    (turn : ∀ (c : σ) (i : Nat) (v : Value) (u : Str → Option Value) h tk own, vs[i]? = some v → OwnOff own (news.map (·.1)) → P i c →
      Fr h₀ env.locals h (fun y => if y = x then some v else kstB (fun z => if stored.contains z then u z else m₀ z) (ps c) y) → News h₀ env.locals h (news ++ own) →
      wpAny (model prog w) A (execs body env) (MPost h₀ env.locals (KS (fun _ => news) ps x stored m₀ P (i + 1)) own (news.map (·.1)) { s with heap := h, toks := tk } Q) E { s with heap := h, toks := tk })
    (done : ∀ (c : σ) (u : Str → Option Value) h tk, P vs.length c → Fr h₀ env.locals h (fun y => if y = x then u y else kstB (fun z => if stored.contains z then u z else m₀ z) (ps c) y) → News h₀ env.locals h news → Q .next { s with heap := h, toks := tk }) :
    wpAny (model prog w) A (pyIter (.ref l)) (fun it s₂ => LoopAtV prog w A h₀ env x body Q E it s₂) E s :=
  my_list (fun _ => news) ps stored P c₀ hh (fun _ => hl) F N hk hp turn done

def WEnd {σ : Type} (h₀ : Heap) (L : Addr) (s : Shared) (Led : σ → List (Addr × Obj)) (ps : σ → List (Str × Value)) (stored : List Str) (m₀ : Str → Option Value) (P : σ → Prop) (μ : σ → Nat) (c : σ) (s₂ : Shared) : Prop :=
  KswEnd h₀ L s Led ps (fun _ => True) stored m₀ P μ c s₂
def WPost {σ : Type} (h₀ : Heap) (L : Addr) (s : Shared) (Led : σ → List (Addr × Obj)) (ps : σ → List (Str × Value)) (stored : List Str) (m₀ : Str → Option Value) (P : σ → Prop) (μ : σ → Nat) (Q : Flow → Shared → Prop) (c : σ) (f : Flow) (s₂ : Shared) : Prop :=
  match f with
  | .ret v => Q (.ret v) s₂
  | .brk => Q .next s₂
  | _ => WEnd h₀ L s Led ps stored m₀ P μ c s₂
def WDone {σ : Type} (h₀ : Heap) (L : Addr) (s : Shared) (Led : σ → List (Addr × Obj)) (ps : σ → List (Str × Value)) (stored : List Str) (m₀ : Str → Option Value) (R : σ → Prop) (s₂ : Shared) : Prop :=
  ∃ (c : σ) (u : Str → Option Value) (h : Heap) (tk : Nat), s₂ = { s with heap := h, toks := tk } ∧ R c ∧ Fr h₀ L h (kstB (fun z => if stored.contains z then u z else m₀ z) (ps c)) ∧ News h₀ L h (Led c)
theorem wend {σ : Type} {h₀ : Heap} {L : Addr} {s : Shared} {Led : σ → List (Addr × Obj)} {ps : σ → List (Str × Value)} {stored : List Str} {m₀ m' : Str → Option Value} {P : σ → Prop} {μ : σ → Nat} {c : σ} {h' : Heap} {tk : Nat} {news' : List (Addr × Obj)} (c' : σ)
    (F : Fr h₀ L h' m') (N : News h₀ L h' news') (hn : ∀ p ∈ Led c', p ∈ news') (hk : ∀ p ∈ ps c', m' p.1 = some p.2) (hr : ∀ z, (∀ p ∈ ps c', z ≠ p.1) → stored.contains z = false → m' z = m₀ z) (hp : P c') (hm : μ c' < μ c) :
    WEnd h₀ L s Led ps stored m₀ P μ c { s with heap := h', toks := tk } := ksw_end c' F N hn trivial hk hr hp hm
theorem wdone {σ : Type} {h₀ : Heap} {L : Addr} {s : Shared} {Led : σ → List (Addr × Obj)} {ps : σ → List (Str × Value)} {stored : List Str} {m₀ : Str → Option Value} {R : σ → Prop} {h : Heap} {tk : Nat} {u : Str → Option Value} (c : σ)
    (F : Fr h₀ L h (kstB (fun z => if stored.contains z then u z else m₀ z) (ps c))) (N : News h₀ L h (Led c)) (hr : R c) : WDone h₀ L s Led ps stored m₀ R { s with heap := h, toks := tk } := ⟨c, u, h, tk, rfl, hr, F, N⟩
theorem my_while {σ : Type} {L : Addr} {test : Expr} {pos : Pos} {m₀ : Str → Option Value} (Led : σ → List (Addr × Obj)) (ps : σ → List (Str × Value)) (stored : List Str) (P R : σ → Prop) (μ : σ → Nat) (c₀ : σ)
    (F : Fr h₀ L s.heap m₀) (N : News h₀ L s.heap (Led c₀)) (hk : ∀ p ∈ ps c₀, m₀ p.1 = some p.2) (hp : P c₀)
    (turn : ∀ (c : σ) (u : Str → Option Value) h tk, P c → Fr h₀ L h (kstB (fun z => if stored.contains z then u z else m₀ z) (ps c)) → News h₀ L h (Led c) →
      wpAny (model prog w) A (isTrue test env (eval test env)) (fun b s₂ =>
        if b = true then wpAny (model prog w) A (execs body env) (WPost h₀ L s Led ps stored m₀ P μ Q c) E s₂ else WDone h₀ L s Led ps stored m₀ R s₂) E { s with heap := h, toks := tk })
    (done : ∀ (c : σ) (u : Str → Option Value) h tk, R c → Fr h₀ L h (kstB (fun z => if stored.contains z then u z else m₀ z) (ps c)) → News h₀ L h (Led c) → Q .next { s with heap := h, toks := tk })
    (hE : PassesOwn (model prog w) A env E := by passes_own) :
    wpAny (model prog w) A (exec (.While test body [] pos) env) Q E s := by
  refine ksw_while Led ps (fun _ => True) stored P μ c₀ F N trivial hk hp (fun c u h tk _ hp' F' N' => ?_) hE
  refine wpAny_mono (turn c u h tk hp' F' N') (fun b s₂ p => ?_) fun _ _ e => e
  cases b with
  | false =>
    simp only [Bool.false_eq_true, if_false] at p ⊢
    obtain ⟨c', u', h', tk', rfl, hr, F'', N''⟩ := p
    exact done c' u' h' tk' hr F'' N''
  | true =>
    simp only [if_true] at p ⊢
    refine wpAny_mono p (fun f s₃ q => ?_) fun _ _ e => e
    cases f <;> exact q
theorem my_whileC {σ : Type} {L : Addr} {test : Expr} {pos : Pos} {m₀ : Str → Option Value} {news : List (Addr × Obj)} (ps : σ → List (Str × Value)) (stored : List Str) (P R : σ → Prop) (μ : σ → Nat) (c₀ : σ)
    (F : Fr h₀ L s.heap m₀) (N : News h₀ L s.heap news) (hk : ∀ p ∈ ps c₀, m₀ p.1 = some p.2) (hp : P c₀)
    (turn : ∀ (c : σ) (u : Str → Option Value) h tk, P c → Fr h₀ L h (kstB (fun z => if stored.contains z then u z else m₀ z) (ps c)) → News h₀ L h news →
      wpAny (model prog w) A (isTrue test env (eval test env)) (fun b s₂ =>
        if b = true then wpAny (model prog w) A (execs body env) (WPost h₀ L s (fun _ => news) ps stored m₀ P μ Q c) E s₂ else WDone h₀ L s (fun _ => news) ps stored m₀ R s₂) E { s with heap := h, toks := tk })
    (done : ∀ (c : σ) (u : Str → Option Value) h tk, R c → Fr h₀ L h (kstB (fun z => if stored.contains z then u z else m₀ z) (ps c)) → News h₀ L h news → Q .next { s with heap := h, toks := tk })
    (hE : PassesOwn (model prog w) A env E := by passes_own) :
    wpAny (model prog w) A (exec (.While test body [] pos) env) Q E s :=
  my_while (fun _ => news) ps stored P R μ c₀ F N hk hp turn done hE

/-- what a statement leaves, where the walk is cut -/
def CutN {σ : Type} (h₀ : Heap) (L : Addr) (s : Shared) (Led : σ → List (Addr × Obj)) (ps : σ → List (Str × Value)) (m₀ : Str → Option Value) (R : σ → Prop) (s' : Shared) : Prop :=
  ∃ (c : σ) (h : Heap) (tk : Nat) (m' : Str → Option Value), s' = { s with heap := h, toks := tk } ∧ R c ∧ Fr h₀ L h m' ∧ (∀ p ∈ ps c, m' p.1 = some p.2) ∧ (∀ z, (∀ p ∈ ps c, z ≠ p.1) → m' z = m₀ z) ∧ News h₀ L h (Led c)
def Cut {σ : Type} (h₀ : Heap) (L : Addr) (s : Shared) (Led : σ → List (Addr × Obj)) (ps : σ → List (Str × Value)) (m₀ : Str → Option Value) (R : σ → Prop) (Q : Flow → Shared → Prop) (f : Flow) (s' : Shared) : Prop :=
  match f with
  | .next => CutN h₀ L s Led ps m₀ R s'
  | f => Q f s'
theorem cut_end {σ : Type} {h₀ : Heap} {L : Addr} {s : Shared} {Led : σ → List (Addr × Obj)} {ps : σ → List (Str × Value)} {m₀ m' : Str → Option Value} {R : σ → Prop} {h : Heap} {tk : Nat} {news' : List (Addr × Obj)} (c : σ)
    (F : Fr h₀ L h m') (N : News h₀ L h news') (hn : ∀ p ∈ Led c, p ∈ news') (hk : ∀ p ∈ ps c, m' p.1 = some p.2) (hr : ∀ z, (∀ p ∈ ps c, z ≠ p.1) → m' z = m₀ z) (hR : R c) : CutN h₀ L s Led ps m₀ R { s with heap := h, toks := tk } :=
  ⟨c, h, tk, m', rfl, hR, F, hk, hr, fun p hp => N p (hn p hp)⟩
theorem cut {σ : Type} {L : Addr} {st : Stmt} {rest : List Stmt} {Q : Flow → Shared → Prop} (Led : σ → List (Addr × Obj)) (ps : σ → List (Str × Value)) (m₀ : Str → Option Value) (R : σ → Prop)
    (first : wpAny (model prog w) A (exec st env) (Cut h₀ L s Led ps m₀ R Q) E s)
    (next : ∀ (c : σ) h tk, R c → Fr h₀ L h (kstB m₀ (ps c)) → News h₀ L h (Led c) → wpAny (model prog w) A (execs rest env) Q E { s with heap := h, toks := tk }) :
    wpAny (model prog w) A (execs (st :: rest) env) Q E s := by
  refine wpAny_execs_cons (wpAny_mono first (fun f s' p => ?_) fun _ _ e => e)
  cases f with
  | next =>
    obtain ⟨c, h, tk, m', rfl, hR, F, hk, hr, N⟩ := p
    refine next c h tk hR ?_ N
    have em : kstB m₀ (ps c) = m' := by
      funext y
      exact kstB_eq hk fun hn => (hr y hn).symm
    rw [em]; exact F
  | _ => exact p
theorem cutC {σ : Type} {L : Addr} {st : Stmt} {rest : List Stmt} {Q : Flow → Shared → Prop} {m₀ : Str → Option Value} {news : List (Addr × Obj)} (_F : Fr h₀ L s.heap m₀) (_N : News h₀ L s.heap news) (ps : σ → List (Str × Value)) (R : σ → Prop)
    (first : wpAny (model prog w) A (exec st env) (Cut h₀ L s (fun _ => news) ps m₀ R Q) E s)
    (next : ∀ (c : σ) h tk, R c → Fr h₀ L h (kstB m₀ (ps c)) → News h₀ L h news → wpAny (model prog w) A (execs rest env) Q E { s with heap := h, toks := tk }) :
    wpAny (model prog w) A (execs (st :: rest) env) Q E s := cut (fun _ => news) ps m₀ R first next
end
end Mine
namespace Mine
local macro_rules | `(tactic| walk_at "getMethod ref") => `(tactic| with_reducible refine hold_of ?_)
local macro_rules | `(tactic| walk_at "truthy ref") => `(tactic| with_reducible refine hold_of ?_)
local macro_rules | `(tactic| walk_at "call builtin:re.Pattern.search") => `(tactic| with_reducible refine hold_of ?_)
abbrev cHdn : ToldN (List Nat) where
  Rel := fun _ vs d => ∃ t, vs = [.str (S (enc d)) t]
  Ok := fun d => d ∈ stks
  size := fun _ => 1
  Tl := fun tl => tl = []
  Out := fun _ r d => r = .bool d.isEmpty
theorem hdn {w : World} {mean mg mb} : TN w mean mg mb 55 cHdn := by
  delta TN PR VW LO
  k_fill
  refine tellsN_of fun d IH => ?_
  unfold TellsN
  intro dp un gd cn cs a ccd cl outer A₀ base h₀ L m news s vs Q E B F X N T hk hR hok hd hu hret
  obtain ⟨t, rfl⟩ := hR
  dsimp only at hok
  clear IH
  refine wpAny_call ?_
  k_dflt ktr_enter
  k_steps
  refine of_hold ?_
  refine k_meth48 (by k_asm) (by k_asm) ?_
  k_steps
  cases d with
  | nil =>
    refine of_hold ?_
    refine k_ipv4_none (by k_asm) (by k_asm) ?_
    k_steps
    exact hret _ [] _ _ (by k_asm) (ktn_tl0 (by k_asm)) ktn_ord0 rfl rfl
  | cons c r =>
    refine of_hold ?_
    refine k_ipv4_some hok (by k_asm) (by k_asm) (by k_asm) ?_
    intro a b h' li hab hn F' N'
    k_steps
    refine of_hold ?_
    refine truthy_match (N' _ (.head _)).1 rfl ?_
    k_steps
    exact hret _ [] _ _ (by k_asm) (ktn_tl0 (cb_drop (news' := (b, _) :: (a, _) :: news) (by k_asm) fun p hp => .tail _ (.tail _ hp))) ktn_ord0 rfl rfl
end Mine
namespace Mine
local macro_rules | `(tactic| walk_at "getMethod ref") => `(tactic| with_reducible refine hold_of ?_)
local macro_rules | `(tactic| walk_at "getAttr ref") => `(tactic| with_reducible refine hold_of ?_)
local macro_rules | `(tactic| walk_at "call builtin:re.Match.span") => `(tactic| with_reducible refine hold_of ?_)
abbrev cUnm : ToldN (List Nat × Nat × Nat) where
  Rel := fun news vs d => ∃ b a p lim li sp t, vs = [.ref b] ∧ (b, matObj (S d.1) t p lim li a) ∈ news ∧ (a, spObj ((d.2.1 : Int) :: (d.2.2 : Int) :: sp)) ∈ news
  Ok := fun d => d.1.length ≤ 20 ∧ d.2.1 ≤ d.2.2 ∧ d.2.2 ≤ d.1.length
  size := fun _ => 1
  Tl := fun tl => tl = []
  Out := fun _ r d => ∃ t, r = .str (S (d.1.take d.2.1 ++ d.1.drop d.2.2)) t
theorem unm {w : World} {mean mg mb} : TN w mean mg mb 38 cUnm := by
  delta TN PR VW LO
  k_fill
  refine tellsN_of fun d IH => ?_
  unfold TellsN
  intro dp un gd cn cs a ccd cl outer A₀ base h₀ L m news s vs Q E B F X N T hk hR hok hd hu hret
  obtain ⟨l, st, en⟩ := d
  obtain ⟨b, a, p, lim, li, sp, t, rfl, hb, ha⟩ := hR
  dsimp only at hok hb ha
  obtain ⟨hok1, hok2, hok3⟩ := hok
  clear IH
  have hx : (S l).length ≤ 20 := by rw [S_len]; exact hok1
  refine wpAny_call ?_
  k_dflt ktr_enter
  k_steps
  (rename News _ _ _ _ => N1)
  refine of_hold ?_
  refine meth_span (N1 _ hb).1 rfl rfl ?_
  k_steps
  refine of_hold ?_
  refine call_span (N1 _ hb).1 (N1 _ ha).1 (by k_asm) (by k_asm) ?_
  intro c9 h9 t91 t92 tk9 hc9 F9 N9
  k_steps
  (rename News _ _ _ _ => N2)
  refine of_hold ?_
  refine string_attr (N2 _ (.tail _ hb)).1 ?_
  k_steps
  (rename News _ _ _ _ => N3)
  refine of_hold ?_
  refine string_attr (N3 _ (.tail _ hb)).1 ?_
  k_steps
  rw [slc_to l (by omega), slc_from l hok3, S_app]
  exact hret _ [] _ _ (by k_asm) (ktn_tl0 (cb_drop (by k_asm) fun p hp => .tail _ hp)) ktn_ord0 rfl ⟨_, rfl⟩
end Mine
namespace Mine
abbrev cStr : ToldN (Nat × List Nat) where
  Rel := fun _ vs d => ∃ t, vs = [.str (S (enc (d.1 :: d.2))) t]
  Ok := fun d => d.1 :: d.2 ∈ stks
  size := fun _ => 1
  Tl := fun tl => tl = []
  Out := fun _ r d => ∃ t, r = .str (S [d.1]) t
theorem str {w : World} {mean mg mb} : TN w mean mg mb 69 cStr := by
  delta TN PR VW LO
  k_fill
  refine tellsN_of fun d IH => ?_
  unfold TellsN
  intro dp un gd cn cs a ccd cl outer A₀ base h₀ L m news s vs Q E B F X N T hk hR hok hd hu hret
  obtain ⟨c, r⟩ := d
  obtain ⟨t, rfl⟩ := hR
  dsimp only at hok
  clear IH
  have hF := strip_all _ hok
  have hl0 := stk_len _ hok
  simp only [stripOk, Bool.and_eq_true, beq_iff_eq] at hF
  obtain ⟨⟨⟨f1, f2⟩, f3⟩, f4⟩ := hF
  have hl2 : 2 < (enc (c :: r)).length := by simp [enc]
  dsimp only at hret
  generalize enc (c :: r) = l at *
  have hx : (S l).length ≤ 20 := by rw [S_len]; omega
  rw [← S_len l] at f2 f3
  k_with "call builtin:str.find" => first | refine find2_at f1 ?_ | refine find4_to f2 (by omega) ?_
  k_with "call builtin:str.rfind" => refine rfind4_to f3 (by omega) ?_
  refine wpAny_call ?_
  k_dflt ktr_enter
  k_steps
  k_with_none
  have e : ∀ r0 : Int, r0 = ((S l).length : Int) → Txt.slice (S l) (some ((((S l).length - 2 : Nat) : Int) + 1)) (some r0) = S [c] := by
    intro r0 h0
    subst h0
    have e1 : (((S l).length - 2 : Nat) : Int) + 1 = ((l.length - 1 : Nat) : Int) := by rw [S_len]; omega
    rw [e1, S_len, slc_ss l (by omega) (by omega), f4]
    have e2 : l.length - (l.length - 1) = 1 := by omega
    rw [e2]; rfl
  rw [e _ (by omega)]
  exact hret _ [] _ _ (by k_asm) (ktn_tl0 (cb_drop (by k_asm) fun p hp => .tail _ hp)) ktn_ord0 rfl ⟨_, rfl⟩
end Mine
namespace Mine
def lineB (l : List Nat) : List Nat := l.flatMap fun d => [32, d]
def lineA : List Nat → List Nat
  | [] => []
  | t :: r => t :: lineB r
def hm (x : List Nat) : Sre.M := (Sre.forSearch head x.toArray 1 0 x.length false).runFor (4 * 3)
structure HOk (m : Sre.M) (b e : Nat) : Prop where
  out : m.outcome = some .matched
  st : m.start = 0
  hd : m.handed = e
  lm : m.lastmark = 1
  mrk : m.marks = #[some b, some e]
def digs : List Nat := [49, 50, 51, 52, 53, 54, 57]
theorem headB {t : Nat} (ht : t ∈ digs) : ∀ r : List Nat, r.length ≤ 6 → HOk (hm (lineB (t :: r))) 1 2 := by
  simp only [digs, List.mem_cons, List.not_mem_nil, or_false] at ht
  intro r hr
  match r, hr with
  | [], _ => rcases ht with rfl | rfl | rfl | rfl | rfl | rfl | rfl <;> exact ⟨by kernel_rfl, by kernel_rfl, by kernel_rfl, by kernel_rfl, by kernel_rfl⟩
  | [_], _ => rcases ht with rfl | rfl | rfl | rfl | rfl | rfl | rfl <;> exact ⟨by kernel_rfl, by kernel_rfl, by kernel_rfl, by kernel_rfl, by kernel_rfl⟩
  | [_, _], _ => rcases ht with rfl | rfl | rfl | rfl | rfl | rfl | rfl <;> exact ⟨by kernel_rfl, by kernel_rfl, by kernel_rfl, by kernel_rfl, by kernel_rfl⟩
  | [_, _, _], _ => rcases ht with rfl | rfl | rfl | rfl | rfl | rfl | rfl <;> exact ⟨by kernel_rfl, by kernel_rfl, by kernel_rfl, by kernel_rfl, by kernel_rfl⟩
  | [_, _, _, _], _ => rcases ht with rfl | rfl | rfl | rfl | rfl | rfl | rfl <;> exact ⟨by kernel_rfl, by kernel_rfl, by kernel_rfl, by kernel_rfl, by kernel_rfl⟩
  | [_, _, _, _, _], _ => rcases ht with rfl | rfl | rfl | rfl | rfl | rfl | rfl <;> exact ⟨by kernel_rfl, by kernel_rfl, by kernel_rfl, by kernel_rfl, by kernel_rfl⟩
  | [_, _, _, _, _, _], _ => rcases ht with rfl | rfl | rfl | rfl | rfl | rfl | rfl <;> exact ⟨by kernel_rfl, by kernel_rfl, by kernel_rfl, by kernel_rfl, by kernel_rfl⟩
  | _ :: _ :: _ :: _ :: _ :: _ :: _ :: r, hr => exact absurd hr (by simp)
theorem headA {t : Nat} (ht : t ∈ digs) : ∀ r : List Nat, 4 ≤ r.length → r.length ≤ 6 → HOk (hm (lineA (t :: r))) 0 1 := by
  simp only [digs, List.mem_cons, List.not_mem_nil, or_false] at ht
  intro r h4 hr
  match r, h4, hr with
  | [_, _, _, _], _, _ => rcases ht with rfl | rfl | rfl | rfl | rfl | rfl | rfl <;> exact ⟨by kernel_rfl, by kernel_rfl, by kernel_rfl, by kernel_rfl, by kernel_rfl⟩
  | [_, _, _, _, _], _, _ => rcases ht with rfl | rfl | rfl | rfl | rfl | rfl | rfl <;> exact ⟨by kernel_rfl, by kernel_rfl, by kernel_rfl, by kernel_rfl, by kernel_rfl⟩
  | [_, _, _, _, _, _], _, _ => rcases ht with rfl | rfl | rfl | rfl | rfl | rfl | rfl <;> exact ⟨by kernel_rfl, by kernel_rfl, by kernel_rfl, by kernel_rfl, by kernel_rfl⟩
  | [], h4, _ => exact absurd h4 (by simp)
  | [_], h4, _ => exact absurd h4 (by simp)
  | [_, _], h4, _ => exact absurd h4 (by simp)
  | [_, _, _], h4, _ => exact absurd h4 (by simp)
  | _ :: _ :: _ :: _ :: _ :: _ :: _ :: r, _, hr => exact absurd hr (by simp)
section
variable {prog : Program} {w : World} {A : Around} {E : Value → Shared → Prop} {s : Shared} {h₀ : Heap} {L : Addr} {m : Str → Option Value} {news : List (Addr × Obj)}
theorem k_head {x : List Nat} {b e : Nat} {t : Tok} {Q : Value → Shared → Prop} (F : Fr h₀ L s.heap m) (N : News h₀ L s.heap news) (X₀ : (Mine.hd.heap_39 w.params).In h₀)
    (hx : x.length ≤ 20) (H : HOk (hm x) b e) (hbe : b ≤ e)
    (h : ∀ a b' h' li, a < b' → (∀ q ∈ news, q.1 < a) → Fr h₀ L h' m → News h₀ L h' ((b', matObj (S x) t 43 x.length li a) :: (a, spObj [(0 : Nat), (e : Int), (b : Int), (e : Int)]) :: news) → Q (.ref b') { s with heap := h' }) :
    wpAny (model prog w) A (call (.builtin "re.Pattern.search") [.ref 43, .str (S x) t]) Q E s := by
  have X := X₀.keeps F.keep
  have el : (S x).length = x.length := S_len _
  refine search_of (n := 3) (X _ _ (lk43 _)) rfl rfl (X _ _ (lk42 _)) rfl (by rw [el]; omega) (by decide) rfl ?_
  rw [headV_code, el]
  have H1 := H.out
  have H2 := H.st
  have H3 := H.hd
  refine .inl ⟨?_, newMatch1 (b0 := b) (e0 := e) F N H.lm H.mrk hbe ?_⟩
  · show ((hm x).outcome matches some .matched)
    rw [H1]
  show ∀ a b' h', a < b' → (∀ q ∈ news, q.1 < a) → Fr h₀ L h' m → News h₀ L h' ((b', matObj _ t 43 _ (hm x).lastindex a) :: (a, spObj [((hm x).start : Int), ((hm x).handed : Int), (b : Int), (e : Int)]) :: news) → Q (.ref b') { s with heap := h' }
  rw [H2, H3]
  intro a b' h' hab hn F' N'
  exact h a b' h' _ hab hn F' N'
end
end Mine
namespace Mine
open PySem.Builtin PySem.Builtin.Str PySem.StrLaws
/-- what stands behind the first c -/
def after (c : Nat) : List Nat → Option (List Nat)
  | [] => none
  | x :: r => if x = c then some r else after c r
def scan1 : List Nat → List Nat → Option (List Nat)
  | [], r => some r
  | c :: _, r => after c r
def scan (o : List Nat) : List (List Nat) → Option (List Nat)
  | ws => ws.foldl (fun a w => a.bind (scan1 w)) (some o)
theorem scan_take (o : List Nat) (ws : List (List Nat)) {i : Nat} {w : List Nat} (h : ws[i]? = some w) : scan o (ws.take (i + 1)) = (scan o (ws.take i)).bind (scan1 w) := by
  unfold scan
  rw [List.take_add_one, h, List.foldl_append]; rfl
theorem after_spec (c : Nat) : ∀ l : List Nat, (after c l = none ∧ c ∉ l) ∨ ∃ i, l[i]? = some c ∧ (∀ k, k < i → l[k]? ≠ some c) ∧ after c l = some (l.drop (i + 1))
  | [] => .inl ⟨rfl, by simp⟩
  | x :: r => by
    unfold after
    by_cases h : x = c
    · rw [if_pos h]
      exact .inr ⟨0, by simp [h], fun k hk => absurd hk (Nat.not_lt_zero _), by simp⟩
    · rw [if_neg h]
      rcases after_spec c r with ⟨h1, h2⟩ | ⟨i, h1, h2, h3⟩
      · exact .inl ⟨h1, by simp [h2, Ne.symm h]⟩
      · refine .inr ⟨i + 1, by simpa using h1, fun k hk => ?_, by simpa using h3⟩
        cases k with
        | zero => simpa using h
        | succ k => simpa using h2 k (by omega)
theorem fromIndex_nat (n k : Nat) : fromIndex n (k : Int) = k := by
  unfold fromIndex
  rw [if_neg (by omega)]; rfl
theorem find4_c (l : List Nat) (c k : Nat) (hk : k ≤ l.length) :
    (after c (l.drop k) = none ∧ find4 (S l) (S [c]) (k : Int) (l.length : Int) = -1) ∨ ∃ p : Nat, find4 (S l) (S [c]) (k : Int) (l.length : Int) = (p : Int) ∧ p + 1 ≤ l.length ∧ after c (l.drop k) = some (l.drop (p + 1)) := by
  have el : (S l).length = l.length := S_len l
  unfold find4
  rw [fromIndex_nat, fromIndex_nat, el, Nat.min_self]
  have hat : ∀ i, At (S l) (S [c]) (S l).length i ↔ l[i]? = some c := by
    intro i
    have := subAt_one (S l) c i
    rw [S_cps] at this
    exact this
  have oc := occ_head_from (S l) (S [c]) k 1 (Nat.le_refl 1)
  rw [el] at oc
  have hat' := hat
  rw [el] at hat'
  have hget : ∀ i, (l.drop k)[i]? = l[k + i]? := fun i => by simp [List.getElem?_drop]
  rcases oc with ⟨h0, hn⟩ | ⟨i, r, h0, hlo, hi, hn⟩
  · rw [h0]
    refine .inl ⟨?_, rfl⟩
    rcases after_spec c (l.drop k) with ⟨h1, _⟩ | ⟨i, h1, _⟩
    · exact h1
    · rw [hget] at h1
      exact absurd ((hat' _).mpr h1) (hn _ (by omega))
  · rw [h0]
    have hi' := (hat' _).mp hi
    have hlt : i < l.length := by
      rcases Nat.lt_or_ge i l.length with h | h
      · exact h
      · rw [List.getElem?_eq_none h] at hi'; cases hi'
    refine .inr ⟨i, rfl, hlt, ?_⟩
    rcases after_spec c (l.drop k) with ⟨_, h2⟩ | ⟨j, h1, h2, h3⟩
    · refine absurd (List.mem_of_getElem? (i := i - k) ?_) h2
      rw [hget]
      have : k + (i - k) = i := by omega
      rw [this]; exact hi'
    · have hj : j = i - k := by
        rcases Nat.lt_trichotomy j (i - k) with h | h | h
        · rw [hget] at h1
          exact absurd ((hat' _).mpr h1) (hn _ (by omega) (by omega))
        · exact h
        · refine absurd ?_ (h2 (i - k) h)
          rw [hget]
          have : k + (i - k) = i := by omega
          rw [this]; exact hi'
      rw [h3, List.drop_drop]
      congr 2
      omega
theorem find4_e (l : List Nat) (k : Nat) (hk : k ≤ l.length) : find4 (S l) (S []) (k : Int) (l.length : Int) = (k : Int) := by
  have el : (S l).length = l.length := S_len l
  unfold find4
  rw [fromIndex_nat, fromIndex_nat, el, Nat.min_self]
  have hat : At (S l) (S []) l.length k := by
    refine ⟨by simpa [S, Str.length] using hk, ?_⟩
    unfold subAt
    simp [S, Str.length]
  have oc := occ_head_from (S l) (S []) k 1 (Nat.le_refl 1)
  rw [el] at oc
  rcases oc with ⟨h0, hn⟩ | ⟨i, r, h0, hlo, hi, hn⟩
  · exact absurd hat (hn k (Nat.le_refl _))
  · rw [h0]
    have : i = k := by
      rcases Nat.lt_or_ge k i with h | h
      · exact absurd hat (hn k (Nat.le_refl _) h)
      · omega
    rw [this]
theorem find4_scan (l w : List Nat) (hw : w.length ≤ 1) (k : Nat) (hk : k ≤ l.length) :
    (scan1 w (l.drop k) = none ∧ find4 (S l) (S w) (k : Int) (l.length : Int) = -1) ∨ ∃ p : Nat, find4 (S l) (S w) (k : Int) (l.length : Int) = (p : Int) ∧ p + w.length ≤ l.length ∧ scan1 w (l.drop k) = some (l.drop (p + w.length)) := by
  match w, hw with
  | [], _ => exact .inr ⟨k, find4_e l k hk, hk, rfl⟩
  | [c], _ => exact find4_c l c k hk
end Mine
namespace Mine
open PySem.StrLaws
theorem slc_neg (l : List Nat) {q : Nat} (h0 : 0 < q) (hq : q ≤ l.length) : Txt.slice (S l) none (some (-(q : Int))) = S (l.take (l.length - q)) := by
  have h := sliceText_neg_hi (S l) none (j := -(q : Int)) (by omega) (by rw [S_len]; omega)
  have e : -(q : Int) + (S l).length = ((l.length - q : Nat) : Int) := by rw [S_len]; omega
  rw [e] at h
  exact Eq.trans h (slc_to l (Nat.sub_le _ _))
theorem slc_nn (l : List Nat) : Txt.slice (S l) none none = S l := by
  have e : Txt.slice (S l) none none = sliceText (S l) none (some ((S l).length : Int)) := by
    show sliceText (S l) none none = _
    unfold sliceText; rw [sliceIdx_none_hi]
  rw [e, S_len]
  have := slc_to l (Nat.le_refl l.length)
  rw [List.take_length] at this
  exact this
theorem item_nat (l : List Nat) {i : Nat} (h : i < l.length) : Txt.item (S l) (i : Int) = S [l.getD i 0] := by
  have e : Txt.charAt (S l) (i : Int) = some (l.getD i 0) := by
    unfold Txt.charAt seqIndex?
    have h1 : ¬ ((i : Int) < 0) := by omega
    rw [if_neg h1]
    have h2 : (decide (0 ≤ (i : Int)) && decide ((i : Int) < ((S l).length : Int))) = true := by rw [S_len]; simp; omega
    rw [if_pos h2]
    simp [S, List.getD_eq_getElem?_getD, h]
  unfold Txt.item
  rw [e]; rfl
theorem item_neg (l : List Nat) {q : Nat} (h0 : 0 < q) (hq : q ≤ l.length) : Txt.item (S l) (-(q : Int)) = S [l.getD (l.length - q) 0] := by
  have e : Txt.charAt (S l) (-(q : Int)) = some (l.getD (l.length - q) 0) := by
    unfold Txt.charAt seqIndex?
    have h1 : (-(q : Int) < 0) := by omega
    rw [if_pos h1]
    have e3 : (-(q : Int) + ((S l).length : Int)) = ((l.length - q : Nat) : Int) := by rw [S_len]; omega
    rw [e3]
    have h2 : (decide (0 ≤ ((l.length - q : Nat) : Int)) && decide (((l.length - q : Nat) : Int) < ((S l).length : Int))) = true := by rw [S_len]; simp; omega
    rw [if_pos h2]
    have h3 : l.length - q < l.length := by omega
    simp [S, List.getD_eq_getElem?_getD, h3]
  unfold Txt.item
  rw [e]; rfl
theorem sl_of {l : List Nat} (h : l.length ≤ 1000000) : (S l).length ≤ sizeLine := by rw [S_len, sizeLine_eq]; omega
section
variable {prog : Program} {w : World} {A : Around} {E : Value → Shared → Prop} {s : Shared} {l : List Nat} {t : Tok} {Q : Value → Shared → Prop} {h₀ : Heap} {L : Addr} {m : Str → Option Value} {news : List (Addr × Obj)} {value slice : Expr}
theorem k_len (hl : l.length ≤ 1000000) (h : Q (.int (l.length : Int) (s.toks + 1)) { s with toks := s.toks + 1 + 1 }) : wpAny (model prog w) A (call (.builtin "len") [.str (S l) t]) Q E s := by
  have e : (S l).length = l.length := S_len l
  refine SBL.len (by rw [e]; omega) ?_
  rw [e]; exact h
theorem k_truthy {Q : Bool → Shared → Prop} (hl : l.length ≤ 1000000) (h : Q (decide (0 < l.length)) { s with toks := s.toks + 1 + 1 }) : wpAny (model prog w) A (truthy (.str (S l) t)) Q E s := by
  have e : (S l).length = l.length := S_len l
  refine SBL.truthy (by rw [e]; omega) ?_
  have e2 : ((((S l).length : Nat) : Int) != 0) = decide (0 < l.length) := by
    rw [e, Bool.eq_iff_iff, bne_iff_ne, decide_eq_true_eq]; omega
  rw [e2]; exact h
theorem k_truthyD {Q : Bool → Shared → Prop} {n : Nat} (hl : l.length ≤ 1000000) (h : Q (decide (n < l.length)) { s with toks := s.toks + 1 + 1 }) : wpAny (model prog w) A (truthy (.str (S (l.drop n)) t)) Q E s := by
  refine k_truthy (by rw [List.length_drop]; omega) ?_
  have e : decide (0 < (l.drop n).length) = decide (n < l.length) := by rw [List.length_drop]; simp only [Nat.sub_pos_iff_lt]
  rw [e]; exact h
theorem k_truthyT {Q : Bool → Shared → Prop} {n : Nat} (hl : l.length ≤ 1000000) (hn : n ≤ l.length) (h : Q (decide (0 < n)) { s with toks := s.toks + 1 + 1 }) : wpAny (model prog w) A (truthy (.str (S (l.take n)) t)) Q E s := by
  refine k_truthy (by rw [List.length_take]; omega) ?_
  have e : decide (0 < (l.take n).length) = decide (0 < n) := by rw [List.length_take, Nat.min_eq_left hn]
  rw [e]; exact h
theorem k_tint1 {i : Int} {u : Tok} {Q : Bool → Shared → Prop} (hi : i ≠ 0) (h : Q true s) : wpAny (model prog w) A (truthy (.int i u)) Q E s := by
  refine truthy_int ?_
  have e : (i != 0) = true := by rw [bne_iff_ne]; exact hi
  rw [e]; exact h
theorem k_tint0 {i : Int} {u : Tok} {Q : Bool → Shared → Prop} (hi : i = 0) (h : Q false s) : wpAny (model prog w) A (truthy (.int i u)) Q E s := by
  refine truthy_int ?_
  subst hi; exact h
theorem k_add {a b : List Nat} {t u : Tok} (ha : a.length + b.length ≤ 1000000) (h : ∀ t' k, Q (.str (S (a ++ b)) t') { s with toks := k }) : wpAny (model prog w) A (binaryOp .Add (.str (S a) t) (.str (S b) u)) Q E s := by
  have e1 : (S a).length = a.length := S_len a
  have e2 : (S b).length = b.length := S_len b
  refine SBL.add (fun t' k _ => ?_) (by rw [e1, e2, sizeLine_eq]; omega)
  rw [S_app]; exact h t' k
theorem k_iadd {a b : List Nat} {t u : Tok} (ha : a.length + b.length ≤ 1000000) (h : ∀ t' k, Q (.str (S (a ++ b)) t') { s with toks := k }) : wpAny (model prog w) A (inplaceOp .Add (.str (S a) t) (.str (S b) u)) Q E s := by
  have e1 : (S a).length = a.length := S_len a
  have e2 : (S b).length = b.length := S_len b
  refine SBL.iadd (fun t' k _ => ?_) (by rw [e1, e2, sizeLine_eq]; omega)
  rw [S_app]; exact h t' k
theorem k_eq {a b : List Nat} {t u : Tok} (h : Q (.bool (decide (a = b))) s) : wpAny (model prog w) A (compareOp .Eq (.str (S a) t) (.str (S b) u)) Q E s := by
  refine eq_str ?_
  have e : (S a == S b) = decide (a = b) := by
    rw [Bool.eq_iff_iff, beq_iff_eq, decide_eq_true_eq]
    exact ⟨S_inj, fun h => h ▸ rfl⟩
  rw [e]; exact h
theorem k_eq1 {a b : Nat} {t u : Tok} (h : Q (.bool (decide (a = b))) s) : wpAny (model prog w) A (compareOp .Eq (.str (S [a]) t) (.str (S [b]) u)) Q E s := by
  refine k_eq ?_
  have e : decide ([a] = [b]) = decide (a = b) := by rw [Bool.eq_iff_iff]; simp
  rw [e]; exact h
theorem k_ne {a b : List Nat} {t u : Tok} (h : Q (.bool (!decide (a = b))) s) : wpAny (model prog w) A (compareOp .NotEq (.str (S a) t) (.str (S b) u)) Q E s := by
  refine ne_str ?_
  have e : (S a != S b) = !decide (a = b) := by
    unfold bne
    congr 1
    rw [Bool.eq_iff_iff, beq_iff_eq, decide_eq_true_eq]
    exact ⟨S_inj, fun h => h ▸ rfl⟩
  rw [e]; exact h
theorem k_lt1 {a b : Nat} {t u : Tok} (h : Q (.bool (decide (a < b))) s) : wpAny (model prog w) A (compareOp .Lt (.str (S [a]) t) (.str (S [b]) u)) Q E s := by
  refine lt_str ?_
  rw [S_cps, S_cps]
  have e : decide ([a] < [b]) = decide (a < b) := by rw [lt_cons_cons]; simp
  rw [e]; exact h
theorem k_item {i : Int} {u : Tok} {n : Nat} (hi : i = (n : Int)) (hn : n < l.length) (hl : l.length ≤ 1000000) (h : Q (.str (S [l.getD n 0]) s.toks) { s with toks := s.toks + 1 })
    (hs : subscripted slice false (.str (S l) t) (.int i u) = operate [.str (S l) t, .int i u] (getItem (.str (S l) t) (.int i u)) := by with_unfolding_all rfl)
    (ht : ∀ r, letTemporaryGo value (.str (S l) t) r = pure () := by intro _; with_unfolding_all rfl) :
    wpAny (model prog w) A (subscriptTail value slice (.str (S l) t) (.int i u)) Q E s := by
  subst hi
  have e : (S l).length = l.length := S_len l
  refine item_str (fitsSsize_of (N := 9223372036854775808) (by omega) (by omega) (Int.le_refl _)) (by omega) (by rw [e]; omega) (fun _ => ?_) hs ht
  rw [item_nat l hn]; exact h
theorem k_itemn {i : Int} {u : Tok} {q : Nat} (hi : i = -(q : Int)) (h0 : 0 < q) (hn : q ≤ l.length) (hl : l.length ≤ 1000000) (h : Q (.str (S [l.getD (l.length - q) 0]) s.toks) { s with toks := s.toks + 1 })
    (hs : subscripted slice false (.str (S l) t) (.int i u) = operate [.str (S l) t, .int i u] (getItem (.str (S l) t) (.int i u)) := by with_unfolding_all rfl)
    (ht : ∀ r, letTemporaryGo value (.str (S l) t) r = pure () := by intro _; with_unfolding_all rfl) :
    wpAny (model prog w) A (subscriptTail value slice (.str (S l) t) (.int i u)) Q E s := by
  subst hi
  have e : (S l).length = l.length := S_len l
  refine item_str (fitsSsize_of (N := 9223372036854775808) (by omega) (by omega) (Int.le_refl _)) (by rw [e]; omega) (by rw [e]; omega) (fun _ => ?_) hs ht
  rw [item_neg l h0 hn]; exact h
theorem k_itemn1 {q : Nat} {u : Tok} (hn : q < l.length) (hl : l.length ≤ 1000000) (h : Q (.str (S [l.getD (l.length - (q + 1)) 0]) s.toks) { s with toks := s.toks + 1 })
    (hs : subscripted slice false (.str (S l) t) (.int (-(q : Int) - 1) u) = operate [.str (S l) t, .int (-(q : Int) - 1) u] (getItem (.str (S l) t) (.int (-(q : Int) - 1) u)) := by with_unfolding_all rfl)
    (ht : ∀ r, letTemporaryGo value (.str (S l) t) r = pure () := by intro _; with_unfolding_all rfl) :
    wpAny (model prog w) A (subscriptTail value slice (.str (S l) t) (.int (-(q : Int) - 1) u)) Q E s :=
  k_itemn (q := q + 1) (by omega) (Nat.succ_pos _) hn hl h hs ht
theorem k_itemm1 {u : Tok} (hn : 0 < l.length) (hl : l.length ≤ 1000000) (h : Q (.str (S [l.getD (l.length - (0 + 1)) 0]) s.toks) { s with toks := s.toks + 1 })
    (hs : subscripted slice false (.str (S l) t) (.int ((0 : Int) - 1) u) = operate [.str (S l) t, .int ((0 : Int) - 1) u] (getItem (.str (S l) t) (.int ((0 : Int) - 1) u)) := by with_unfolding_all rfl)
    (ht : ∀ r, letTemporaryGo value (.str (S l) t) r = pure () := by intro _; with_unfolding_all rfl) :
    wpAny (model prog w) A (subscriptTail value slice (.str (S l) t) (.int ((0 : Int) - 1) u)) Q E s :=
  k_itemn (q := 1) (by omega) (by omega) hn hl h hs ht
theorem k_slF {i : Int} {ui : Tok} {n : Nat} (hi : i = (n : Int)) (hn : n ≤ l.length) (hl : l.length ≤ 1000000) (F : Fr h₀ L s.heap m) (N : News h₀ L s.heap news)
    (h : ∀ h' t' k, Fr h₀ L h' m → News h₀ L h' news → Q (.str (S (l.drop n)) t') { s with heap := h', toks := k })
    (hs : subscripted slice false (.str (S l) t) (.ref s.heap.objs.size) = operate [.ref s.heap.objs.size, .str (S l) t] (getItem (.str (S l) t) (.ref s.heap.objs.size)) := by with_unfolding_all rfl)
    (ht : ∀ r, letTemporaryGo value (.str (S l) t) r = pure () := by intro _; with_unfolding_all rfl) :
    wpAny (model prog w) A (subscriptTail value slice (.str (S l) t) (.ref s.heap.objs.size)) Q E { s with heap := s.heap.push { cls := .type "slice", data := .fields #[.int i ui, .none, .none] } } := by
  subst hi
  refine slice_strN_sn F N (fun h' t' k F' N' => ?_) hs ht (sl_of hl)
  rw [slc_from l hn]; exact h h' t' k F' N'
theorem k_slT {j : Int} {uj : Tok} {n : Nat} (hi : j = (n : Int)) (hn : n ≤ l.length) (hl : l.length ≤ 1000000) (F : Fr h₀ L s.heap m) (N : News h₀ L s.heap news)
    (h : ∀ h' t' k, Fr h₀ L h' m → News h₀ L h' news → Q (.str (S (l.take n)) t') { s with heap := h', toks := k })
    (hs : subscripted slice false (.str (S l) t) (.ref s.heap.objs.size) = operate [.ref s.heap.objs.size, .str (S l) t] (getItem (.str (S l) t) (.ref s.heap.objs.size)) := by with_unfolding_all rfl)
    (ht : ∀ r, letTemporaryGo value (.str (S l) t) r = pure () := by intro _; with_unfolding_all rfl) :
    wpAny (model prog w) A (subscriptTail value slice (.str (S l) t) (.ref s.heap.objs.size)) Q E { s with heap := s.heap.push { cls := .type "slice", data := .fields #[.none, .int j uj, .none] } } := by
  subst hi
  refine slice_strN_ns F N (fun h' t' k F' N' => ?_) hs ht (sl_of hl)
  rw [slc_to l hn]; exact h h' t' k F' N'
theorem k_slN {j : Int} {uj : Tok} {q : Nat} (hi : j = -(q : Int)) (h0 : 0 < q) (hn : q ≤ l.length) (hl : l.length ≤ 1000000) (F : Fr h₀ L s.heap m) (N : News h₀ L s.heap news)
    (h : ∀ h' t' k, Fr h₀ L h' m → News h₀ L h' news → Q (.str (S (l.take (l.length - q))) t') { s with heap := h', toks := k })
    (hs : subscripted slice false (.str (S l) t) (.ref s.heap.objs.size) = operate [.ref s.heap.objs.size, .str (S l) t] (getItem (.str (S l) t) (.ref s.heap.objs.size)) := by with_unfolding_all rfl)
    (ht : ∀ r, letTemporaryGo value (.str (S l) t) r = pure () := by intro _; with_unfolding_all rfl) :
    wpAny (model prog w) A (subscriptTail value slice (.str (S l) t) (.ref s.heap.objs.size)) Q E { s with heap := s.heap.push { cls := .type "slice", data := .fields #[.none, .int j uj, .none] } } := by
  subst hi
  refine slice_strN_ns F N (fun h' t' k F' N' => ?_) hs ht (sl_of hl)
  rw [slc_neg l h0 hn]; exact h h' t' k F' N'
theorem k_slA (hl : l.length ≤ 1000000) (F : Fr h₀ L s.heap m) (N : News h₀ L s.heap news)
    (h : ∀ h' t' k, Fr h₀ L h' m → News h₀ L h' news → Q (.str (S l) t') { s with heap := h', toks := k })
    (hs : subscripted slice false (.str (S l) t) (.ref s.heap.objs.size) = operate [.ref s.heap.objs.size, .str (S l) t] (getItem (.str (S l) t) (.ref s.heap.objs.size)) := by with_unfolding_all rfl)
    (ht : ∀ r, letTemporaryGo value (.str (S l) t) r = pure () := by intro _; with_unfolding_all rfl) :
    wpAny (model prog w) A (subscriptTail value slice (.str (S l) t) (.ref s.heap.objs.size)) Q E { s with heap := s.heap.push { cls := .type "slice", data := .fields #[.none, .none, .none] } } := by
  refine slice_strN_nn F N (fun h' t' k F' N' => ?_) hs ht (sl_of hl)
  rw [slc_nn l]; exact h h' t' k F' N'
theorem k_slS {i j : Int} {ui uj : Tok} {a b : Nat} (hi : i = (a : Int)) (hj : j = (b : Int)) (hab : a ≤ b) (hb : b ≤ l.length) (hl : l.length ≤ 1000000) (F : Fr h₀ L s.heap m) (N : News h₀ L s.heap news)
    (h : ∀ h' t' k, Fr h₀ L h' m → News h₀ L h' news → Q (.str (S ((l.drop a).take (b - a))) t') { s with heap := h', toks := k })
    (hs : subscripted slice false (.str (S l) t) (.ref s.heap.objs.size) = operate [.ref s.heap.objs.size, .str (S l) t] (getItem (.str (S l) t) (.ref s.heap.objs.size)) := by with_unfolding_all rfl)
    (ht : ∀ r, letTemporaryGo value (.str (S l) t) r = pure () := by intro _; with_unfolding_all rfl) :
    wpAny (model prog w) A (subscriptTail value slice (.str (S l) t) (.ref s.heap.objs.size)) Q E { s with heap := s.heap.push { cls := .type "slice", data := .fields #[.int i ui, .int j uj, .none] } } := by
  subst hi hj
  refine slice_strN_ss F N (fun h' t' k F' N' => ?_) hs ht (sl_of hl)
  rw [slc_ss l hab hb]; exact h h' t' k F' N'
end
theorem hs_sl {lo hi : Option Expr} {p : Pos} {l : List Nat} {t : Tok} {a : Addr} : subscripted (.Slice lo hi none p) false (.str (S l) t) (.ref a) = operate [.ref a, .str (S l) t] (getItem (.str (S l) t) (.ref a)) := rfl
theorem ht_nm {x : Str} {p : Pos} {l : List Nat} {t : Tok} (r : Value) : letTemporaryGo (.Name x p) (.str (S l) t) r = pure () := rfl
end Mine
namespace Mine
def alpha : List Nat := [46, 49, 50, 51, 52, 53, 54, 57, 120]
theorem lower_one : ∀ c ∈ alpha, Txt.lower (S [c]) = S [c] := by decide +kernel
theorem k_lower {prog : Program} {w : World} {A : Around} {E : Value → Shared → Prop} {s : Shared} {c : Nat} {t : Tok} {Q : Value → Shared → Prop} (hc : c ∈ alpha) (h : Q (.str (S [c]) s.toks) { s with toks := s.toks + 1 }) :
    wpAny (model prog w) A (call (.builtin "str.lower") [.str (S [c]) t]) Q E s := by
  refine SC.lower ?_ ?_
  · rw [lower_one c hc]; rfl
  · rw [lower_one c hc]; exact h
theorem S_beq {a b : List Nat} : (S a == S b) = (a == b) := by
  rw [Bool.eq_iff_iff]; simp only [beq_iff_eq]
  exact ⟨S_inj, fun h => h ▸ rfl⟩
abbrev cSub : ToldN (Nat × Nat) where
  Rel := fun _ vs d => ∃ t u, vs = [.str (S [d.1]) t, .str (S [d.2]) u]
  Ok := fun d => d.1 ∈ alpha ∧ d.2 ∈ alpha
  size := fun _ => 1
  Tl := fun tl => tl = []
  Out := fun _ r d => ∃ t, r = .int (if d.1 = d.2 then 0 else 2) t
theorem sub {w : World} {mean mg mb} : TN w mean mg mb 76 cSub := by
  delta TN PR VW LO
  k_fill
  refine tellsN_of fun d IH => ?_
  unfold TellsN
  intro dp un gd cn cs a ccd cl outer A₀ base h₀ L m news s vs Q E B F X N T hk hR hok hd hu hret
  obtain ⟨x, y⟩ := d
  obtain ⟨t, u, rfl⟩ := hR
  dsimp only at hok hret
  obtain ⟨ha, hb⟩ := hok
  clear IH
  k_with "call builtin:str.lower" => first | refine k_lower ha ?_ | refine k_lower hb ?_
  refine wpAny_call ?_
  k_dflt ktr_enter
  k_steps
  k_with_none
  all_goals (rename (_ == _) = _ => e1)
  all_goals (simp only [S_beq, beq_iff_eq, List.cons.injEq, and_true, beq_eq_false_iff_ne, ne_eq] at e1)
  · exact hret _ [] _ _ (by k_asm) (ktn_tl0 (by k_asm)) ktn_ord0 rfl (ktn_int (if_pos e1).symm)
  · exact hret _ [] _ _ (by k_asm) (ktn_tl0 (by k_asm)) ktn_ord0 rfl (ktn_int (if_neg e1).symm)
end Mine
namespace Mine
def dg : List Nat := [49, 50, 51, 52, 53, 54]
def ell (j c i : Nat) : List Nat := [46, 46, 46, j, 46, 46, 46, c, 46, 46, 46, i, 46, 46, 46]
theorem ell_split : ∀ j ∈ dg, ∀ c ∈ dg, ∀ i ∈ dg, i < j → j < c → Txt.split (S (ell j c i)) (Str.ofString "...") = [S [], S [j], S [c], S [i], S []] := by decide +kernel
theorem ell_in : ∀ j ∈ dg, ∀ c ∈ dg, ∀ i ∈ dg, i < j → j < c → (Builtin.Str.occurrences (S (ell j c i)) (Str.ofString "...") 0 (S (ell j c i)).length 1).isEmpty = false := by decide +kernel
theorem map5 {α β : Type} {l : List (α × β)} {a b c d e : α} (h : l.map (·.1) = [a, b, c, d, e]) : ∃ t1 t2 t3 t4 t5, l = [(a, t1), (b, t2), (c, t3), (d, t4), (e, t5)] := by
  match l, h with
  | [(_, t1), (_, t2), (_, t3), (_, t4), (_, t5)], h =>
    simp only [List.map_cons, List.map_nil, List.cons.injEq, and_true] at h
    obtain ⟨rfl, rfl, rfl, rfl, rfl⟩ := h
    exact ⟨_, _, _, _, _, rfl⟩
def ellB (j c i : Nat) (o : List Nat) : Bool := (scan o [[], [j], [c], [i], []]).isSome
theorem ell_vs {j c i : Nat} {t1 t2 t3 t4 t5 : Tok} {k : Nat} {v : Value} (h : [Value.str (S []) t1, .str (S [j]) t2, .str (S [c]) t3, .str (S [i]) t4, .str (S []) t5][k]? = some v) :
    ∃ (wl : List Nat) (t : Tok), v = .str (S wl) t ∧ wl.length ≤ 1 ∧ [[], [j], [c], [i], []][k]? = some wl := by
  match k, h with
  | 0, h => cases h; exact ⟨_, _, rfl, by simp, rfl⟩
  | 1, h => cases h; exact ⟨_, _, rfl, by simp, rfl⟩
  | 2, h => cases h; exact ⟨_, _, rfl, by simp, rfl⟩
  | 3, h => cases h; exact ⟨_, _, rfl, by simp, rfl⟩
  | 4, h => cases h; exact ⟨_, _, rfl, by simp, rfl⟩
theorem foldl_none (ws : List (List Nat)) : ws.foldl (fun a w => a.bind (scan1 w)) none = none := by
  induction ws with
  | nil => rfl
  | cons w r ih => exact ih
theorem scan_none {o : List Nat} {ws : List (List Nat)} (i : Nat) (h : scan o (ws.take i) = none) : scan o ws = none := by
  rw [← List.take_append_drop i ws]
  unfold scan at *
  rw [List.foldl_append, h, foldl_none]
local macro_rules | `(tactic| walk_at "call builtin:len") => `(tactic| ((with_reducible show wpAny _ _ (call (Value.builtin "len") [Value.str (S _) _]) _ _ _); refine k_len (by omega) ?_))
local macro_rules | `(tactic| walk_at "MPost") => `(tactic| dsimp only [MPost])
abbrev cEll : ToldN (Nat × Nat × Nat × List Nat) where
  Rel := fun _ vs d => ∃ t u, vs = [.str (S (ell d.1 d.2.1 d.2.2.1)) t, .str (S d.2.2.2) u]
  Ok := fun d => d.1 ∈ dg ∧ d.2.1 ∈ dg ∧ d.2.2.1 ∈ dg ∧ d.2.2.2.length ≤ 20 ∧ d.2.2.1 < d.1 ∧ d.1 < d.2.1
  size := fun _ => 1
  Tl := fun tl => tl = []
  Out := fun _ r d => r = .bool (ellB d.1 d.2.1 d.2.2.1 d.2.2.2)
theorem ellm {w : World} {mean mg mb} : TN w mean mg mb 62 cEll := by
  delta TN PR VW LO
  k_fill
  refine tellsN_of fun d IH => ?_
  unfold TellsN
  intro dp un gd cn cs a ccd cl outer A₀ base h₀ L m news s vs Q E B F X N T hk hR hok hd hu hret
  obtain ⟨j, c', i, o⟩ := d
  obtain ⟨t, u, rfl⟩ := hR
  dsimp only at hok hret
  obtain ⟨hj, hc, hi, hl, hij, hjc⟩ := hok
  clear IH
  have hx : (S o).length ≤ 20 := by rw [S_len]; exact hl
  refine wpAny_call ?_
  k_dflt ktr_enter
  k_steps
  · rename (List.isEmpty _ = true) => e1
    rw [ell_in j hj c' hc i hi hij hjc] at e1; cases e1
  rename (List.map _ _ = Txt.split _ _) => e1
  rw [ell_split j hj c' hc i hi hij hjc] at e1
  obtain ⟨t1, t2, t3, t4, t5, rfl⟩ := map5 e1
  simp only [strValues, List.map_cons, List.map_nil] at *
  k_steps
  refine For_invVF (by k_asm) rfl rfl ?_
  k_steps
  (rename Fr _ _ _ _ => lF')
  (rename News _ _ _ _ => lN')
  refine my_listC (σ := Nat × Tok) (vs := [.str (S []) t1, .str (S [j]) t2, .str (S [c']) t3, .str (S [i]) t4, .str (S []) t5]) (fun c => [(Str.ofString "startpos", .int (c.1 : Int) c.2)]) [Str.ofString "startpos"]
    (fun k c => c.1 ≤ o.length ∧ scan o ([[], [j], [c'], [i], []].take k) = some (o.drop c.1)) (0, _) rfl lF' lN' (.tail _ (.head _)) (by kst_all) ⟨Nat.zero_le _, rfl⟩ ?turn ?done
  case done =>
    rintro ⟨q, tq⟩ u' h9 tk9 ⟨hq, hs⟩ F9 N9
    clear lF' lN'
    k_steps
    refine hret _ [] _ _ (by k_asm) (ktn_tl0 (cb_drop (by k_asm) fun p hp => .tail _ (.tail _ hp))) ktn_ord0 rfl ?_
    have e : ellB j c' i o = true := by
      unfold ellB
      have hs' : scan o [[], [j], [c'], [i], []] = some (o.drop q) := hs
      rw [hs']; rfl
    rw [e]
  case turn =>
    rintro ⟨q, tq⟩ k v u' h9 tk9 own9 hv hoff ⟨hq, hs⟩ F9 N9
    clear lF' lN'
    obtain ⟨wl, tv, rfl, hwl, hw⟩ := ell_vs hv
    dsimp only [kstB] at F9
    dsimp only at hq hs
    have hsn := scan_take o _ hw
    rw [hs] at hsn
    have el : (S o).length = o.length := S_len o
    have elw : (S wl).length = wl.length := S_len wl
    rcases find4_scan o wl hwl q hq with ⟨g1, g2⟩ | ⟨p, g2, g3, g1⟩
    · k_with "call builtin:str.find" => refine find4_to g2 (by omega) ?_
      k_steps
      k_with_none
      refine hret _ [] _ _ (by k_asm) (ktn_tl0 (cb_drop (by k_asm) fun p hp => List.mem_append.mpr (.inl (.tail _ (.tail _ hp))))) ktn_ord0 rfl ?_
      have e : ellB j c' i o = false := by
        unfold ellB
        rw [scan_none (k + 1) (hsn.trans g1)]; rfl
      rw [e]
    · k_with "call builtin:str.find" => refine find4_to g2 (by omega) ?_
      k_steps
      k_with_none
      refine ks_end (p + wl.length, _) (by k_asm) (by k_asm) (by kst_inAny) (by kst_anyIn) rfl (by kst_all) (by kst_same) ⟨g3, hsn.trans g1⟩
end Mine
namespace Mine
/-- the length of what two lists begin with alike -/
def lcp : List Nat → List Nat → Nat
  | a :: as, b :: bs => if a = b then lcp as bs + 1 else 0
  | _, _ => 0
theorem lcp_le : ∀ a b : List Nat, lcp a b ≤ a.length ∧ lcp a b ≤ b.length
  | a :: as, b :: bs => by
    unfold lcp
    have := lcp_le as bs
    split
    · simp only [List.length_cons]; omega
    · exact ⟨Nat.zero_le _, Nat.zero_le _⟩
  | [], b => by simp [lcp]
  | a :: as, [] => by simp [lcp]
theorem lcp_at : ∀ (a b : List Nat) (p : Nat), p < lcp a b → a.getD p 0 = b.getD p 0
  | a :: as, b :: bs, p, h => by
    unfold lcp at h
    split at h
    · rename_i e
      cases p with
      | zero => simpa using e
      | succ p => simpa using lcp_at as bs p (by omega)
    · exact absurd h (Nat.not_lt_zero _)
  | [], b, p, h => by simp [lcp] at h
  | a :: as, [], p, h => by simp [lcp] at h
theorem lcp_end : ∀ (a b : List Nat), lcp a b < a.length → lcp a b < b.length → a.getD (lcp a b) 0 ≠ b.getD (lcp a b) 0
  | a :: as, b :: bs, h1, h2 => by
    unfold lcp at h1 h2 ⊢
    split
    · rename_i e
      rw [if_pos e] at h1 h2
      simp only [List.length_cons] at h1 h2
      simpa using lcp_end as bs (by omega) (by omega)
    · rename_i e
      simpa using e
  | [], b, h, _ => by simp at h
  | a :: as, [], _, h => by simp at h
theorem lcp_go {a b : List Nat} {p : Nat} (hp : p ≤ lcp a b) (h1 : p < a.length) (h2 : p < b.length) (h3 : a.getD p 0 = b.getD p 0) : p + 1 ≤ lcp a b := by
  rcases Nat.lt_or_ge p (lcp a b) with h | h
  · exact h
  · have e : p = lcp a b := by omega
    subst e
    exact absurd h3 (lcp_end a b h1 h2)
theorem lcp_stop {a b : List Nat} {p : Nat} (hp : p ≤ lcp a b) (h : ¬ (p < a.length ∧ p < b.length ∧ a.getD p 0 = b.getD p 0)) : p = lcp a b := by
  rcases Nat.lt_or_ge p (lcp a b) with h' | h'
  · have := lcp_le a b
    exact absurd ⟨by omega, by omega, lcp_at a b p h'⟩ h
  · omega
def lcs (a b : List Nat) : Nat := lcp a.reverse b.reverse
theorem lcs_le (a b : List Nat) : lcs a b ≤ a.length ∧ lcs a b ≤ b.length := by
  have := lcp_le a.reverse b.reverse
  simpa [lcs] using this
theorem getD_rev {a : List Nat} {q : Nat} (h : q < a.length) : a.reverse.getD q 0 = a.getD (a.length - (q + 1)) 0 := by
  have : a.length - 1 - q = a.length - (q + 1) := by omega
  rw [List.getD_eq_getElem?_getD, List.getD_eq_getElem?_getD, List.getElem?_reverse h, this]
theorem lcs_go {a b : List Nat} {q : Nat} (hp : q ≤ lcs a b) (h1 : q < a.length) (h2 : q < b.length) (h3 : a.getD (a.length - (q + 1)) 0 = b.getD (b.length - (q + 1)) 0) : q + 1 ≤ lcs a b :=
  lcp_go hp (by simpa using h1) (by simpa using h2) (by rw [getD_rev h1, getD_rev h2]; exact h3)
theorem lcs_stop {a b : List Nat} {q : Nat} (hp : q ≤ lcs a b) (h : ¬ (q < a.length ∧ q < b.length ∧ a.getD (a.length - (q + 1)) 0 = b.getD (b.length - (q + 1)) 0)) : q = lcs a b := by
  refine lcp_stop hp fun ⟨h1, h2, h3⟩ => h ?_
  rw [List.length_reverse] at h1 h2
  rw [getD_rev h1, getD_rev h2] at h3
  exact ⟨h1, h2, h3⟩

def iter {σ : Type} (f : Nat → σ → σ) : Nat → σ → σ
  | 0, s => s
  | n + 1, s => f n (iter f n s)
/-- a row, the distance, the result, the least so far -/
abbrev LSt := List Int × Int × Int × Int
def lin (c : Nat) (a : List Nat) (i : Nat) (s : LSt) : LSt :=
  let d := s.1.getD i 0
  let sb := s.2.1 + if c = a.getD i 0 then 0 else 2
  let ins := (if d < s.2.2.1 then d else s.2.2.1) + 2
  let r := if sb < ins then sb else ins
  (s.1.set i r, d, r, if r < s.2.2.2 then r else s.2.2.2)
def lout (a b : List Nat) (mx : Int) (k : Nat) (o : Option (List Int × Int)) : Option (List Int × Int) :=
  match o with
  | none => none
  | some (row, _) =>
    let s := iter (lin (b.getD k 0) a) a.length (row, (k : Int) * 2, (k : Int) * 2, 9223372036854775807)
    if mx < s.2.2.2 then none else some (s.1, s.2.2.1)
def row0 (n : Nat) : List Int := (List.range n).map fun (i : Nat) => 2 + (i : Int) * 2
theorem lout_none {a b : List Nat} {mx : Int} {o : Option (List Int × Int)} {k : Nat} (h : iter (lout a b mx) k o = none) : ∀ n, iter (lout a b mx) (k + n) o = none
  | 0 => h
  | n + 1 => by
    show lout a b mx (k + n) (iter (lout a b mx) (k + n) o) = none
    rw [lout_none h n]; rfl
theorem lout_none_le {a b : List Nat} {mx : Int} {o : Option (List Int × Int)} {k n : Nat} (h : iter (lout a b mx) k o = none) (hk : k ≤ n) : iter (lout a b mx) n o = none := by
  have e : n = k + (n - k) := by omega
  rw [e]; exact lout_none h _
theorem getD_mem {l : List Nat} {i : Nat} (h : i < l.length) : l.getD i 0 ∈ l := by
  rw [List.getD_eq_getElem?_getD, List.getElem?_eq_getElem h]; exact List.getElem_mem h
theorem row0_eq (n : Nat) : rangeInts 2 2 n = row0 n := rfl
theorem row0_len (n : Nat) : (row0 n).length = n := by simp [row0]
section
variable {prog : Program} {w : World} {A : Around} {E : Value → Shared → Prop} {s : Shared} {Q : Value → Shared → Prop} {h₀ : Heap} {L : Addr} {m : Str → Option Value} {news : List (Addr × Obj)}
theorem k_row0 {r : Addr} {b : Int} {t u v : Tok} {n : Nat} (hh : A.handled = none) (F : Fr h₀ L s.heap m) (N : News h₀ L s.heap news) (hr : IsRange s.heap r 2 b 2 t u v) (hb : b = 2 * ((n : Int) + 1)) (hn : n ≤ 20)
    (h : ∀ D us c h' tk, Fr h₀ L h' m → News h₀ L h' ((D, listOf (List.toArray us) c) :: news) → (∀ p ∈ news, p.1 < D) → IntsAre us (row0 n) → Q (.ref D) { s with heap := h', toks := tk }) :
    wpAny (model prog w) A (call (.type "list") [.ref r]) Q E s := by
  subst hb
  have hsm : Builtin.Range.small 2 (2 * ((n : Int) + 1)) 2 = true := (by decide +kernel : ∀ n : Nat, n < 21 → Builtin.Range.small 2 (2 * ((n : Int) + 1)) 2 = true) n (by omega)
  have hsz : Builtin.Range.rangeSize 2 (2 * ((n : Int) + 1)) 2 = (n : Int) := by
    unfold Builtin.Range.rangeSize
    rw [if_pos (by omega)]
    split <;> omega
  refine list_rangeD hh F N hr hsm hsz (by omega) fun h' tk ys F' N' _ hno hl hp hc => ?_
  obtain ⟨⟨c, hD⟩, _⟩ := hp
  refine h s.heap.objs.size ys c h' tk F' (fun p hp' => ?_) (fun p hp' => Heap.lt_size (N p hp').1) (IntsAre.ofCarried hc)
  rcases List.mem_cons.mp hp' with rfl | hp'
  · exact ⟨hD, Nat.ne_of_gt F.ns.lt, hno⟩
  · exact N' p hp'
end
def levD (a b : List Nat) (mx : Int) : Int :=
  match iter (lout a b mx) b.length (some (row0 a.length, 0)) with
  | none => mx + 1
  | some (_, r) => r
def levS (a b : List Nat) (mx : Int) : Int :=
  if ((b.length : Int) - a.length) * 2 > mx then mx + 1 else levD a b mx
def levC (a b : List Nat) (mx : Int) : Int :=
  if a.length = 0 ∨ b.length = 0 then 2 * ((a.length : Int) + b.length)
  else if b.length < a.length then levS b a mx else levS a b mx
def lev (a b : List Nat) (mx : Int) : Int :=
  if a = b then 0 else
  let a1 := a.drop (lcp a b)
  let b1 := b.drop (lcp a b)
  levC (a1.take (a1.length - lcs a1 b1)) (b1.take (b1.length - lcs a1 b1)) mx
end Mine
namespace Mine
def dg6 : List Nat := [49, 50, 51, 52, 53, 54]
/-- one more figure: the stack (its top first), the row, the stacks seen -/
abbrev RSt := List Nat × List Nat × List (List Nat)
def rstep (o : List Nat) (k : Nat) (s : RSt) : RSt :=
  let t := (o ++ [57]).getD k 0
  let st := t :: s.1.dropWhile (· < t)
  (st, s.2.1 ++ s.1.takeWhile (· < t), s.2.2 ++ [st])
def rst (o : List Nat) (k : Nat) : RSt := iter (rstep o) k ([], [], [])
def runRow (o : List Nat) : List Nat := (rst o (o.length + 1)).2.1
def runSeen (o : List Nat) : List (List Nat) := (rst o (o.length + 1)).2.2
def riseB : List Nat → Bool
  | [] => true
  | [a] => dg6.contains a
  | a :: b :: r => dg6.contains a && decide (a < b) && riseB (b :: r)
def okRun (o : List Nat) : Bool := o.length ≤ 6 && 4 ≤ o.length && o.all dg6.contains && (List.range (o.length + 1)).all fun k => riseB (rst o k).1
theorem rise_all : ∀ st : List Nat, riseB st = true → List.Pairwise (· < ·) st ∧ ∀ x ∈ st, x ∈ dg6
  | [], _ => by simp
  | [a], h => by
    have h' : dg6.contains a = true := h
    refine ⟨by simp, fun x hx => ?_⟩
    rw [List.mem_singleton.mp hx]; exact List.contains_iff_mem.mp h'
  | a :: b :: r, h => by
    have h' : (dg6.contains a && decide (a < b) && riseB (b :: r)) = true := h
    simp only [Bool.and_eq_true, decide_eq_true_eq] at h'
    obtain ⟨⟨h1, h2⟩, h3⟩ := h'
    obtain ⟨ih1, ih2⟩ := rise_all (b :: r) h3
    refine ⟨List.pairwise_cons.mpr ⟨fun x hx => ?_, ih1⟩, fun x hx => ?_⟩
    · rcases List.mem_cons.mp hx with rfl | hx
      · exact h2
      · exact Nat.lt_trans h2 ((List.pairwise_cons.mp ih1).1 x hx)
    · rcases List.mem_cons.mp hx with rfl | hx
      · exact List.contains_iff_mem.mp h1
      · exact ih2 x hx
theorem subl_of : ∀ (L st : List Nat), List.Pairwise (· < ·) L → List.Pairwise (· < ·) st → (∀ x ∈ st, x ∈ L) → st ∈ subl L
  | [], st, _, _, h => by
    cases st with
    | nil => exact .head _
    | cons x _ => exact absurd (h x (.head _)) (by simp)
  | a :: r, [], hL, _, _ => List.mem_append.mpr (.inl (subl_of r [] (List.pairwise_cons.mp hL).2 .nil (by simp)))
  | a :: r, x :: xs, hL, hs, h => by
    have hLr := List.pairwise_cons.mp hL
    have hsx := List.pairwise_cons.mp hs
    by_cases e : x = a
    · subst e
      refine List.mem_append.mpr (.inr (List.mem_map.mpr ⟨xs, subl_of r xs hLr.2 hsx.2 fun y hy => ?_, rfl⟩))
      rcases List.mem_cons.mp (h y (.tail _ hy)) with rfl | h'
      · exact absurd (hsx.1 y hy) (Nat.lt_irrefl _)
      · exact h'
    · refine List.mem_append.mpr (.inl (subl_of r (x :: xs) hLr.2 hs fun y hy => ?_))
      have hxr : x ∈ r := (List.mem_cons.mp (h x (.head _))).resolve_left e
      rcases List.mem_cons.mp (h y hy) with rfl | h'
      · rcases List.mem_cons.mp hy with rfl | hy
        · exact absurd rfl e
        · exact absurd (Nat.lt_trans (hLr.1 x hxr) (hsx.1 y hy)) (Nat.lt_irrefl _)
      · exact h'
theorem stks_of {st : List Nat} (h : riseB st = true) : st ∈ stks := by
  obtain ⟨h1, h2⟩ := rise_all st h
  exact subl_of _ _ (by decide) h1 h2
theorem rise_tail {a : Nat} {r : List Nat} (h : riseB (a :: r) = true) : riseB r = true := by
  cases r with
  | nil => rfl
  | cons b r =>
    have h' : (dg6.contains a && decide (a < b) && riseB (b :: r)) = true := h
    simp only [Bool.and_eq_true] at h'
    exact h'.2
theorem enc_cons (t : Nat) (st : List Nat) : enc st ++ [46] ++ [t] = enc (t :: st) := by simp [enc]
theorem enc_len (st : List Nat) : (enc st).length = 2 * st.length + 1 := by
  induction st with
  | nil => rfl
  | cons a r ih => rw [← enc_cons]; simp only [List.length_append, List.length_cons, List.length_nil]; omega
/-- the line when k figures are off -/
def lineK (o : List Nat) (k : Nat) : List Nat := if k = 0 then lineA (o ++ [57]) else lineB ((o ++ [57]).drop k)
theorem lineB_len (l : List Nat) : (lineB l).length = 2 * l.length := by
  induction l with
  | nil => rfl
  | cons a r ih =>
    show (32 :: a :: lineB r).length = _
    simp only [List.length_cons, ih]; omega
theorem lineK_len (o : List Nat) (k : Nat) (h : o.length ≤ 6) : (lineK o k).length ≤ 14 := by
  unfold lineK
  split
  · cases hc : o ++ [57] with
    | nil => simp [lineA]
    | cons a r =>
      have := congrArg List.length hc
      simp only [List.length_append, List.length_cons, List.length_nil] at this
      show (a :: lineB r).length ≤ 14
      rw [List.length_cons, lineB_len]; omega
  · rw [lineB_len, List.length_drop, List.length_append]; simp only [List.length_cons, List.length_nil]; omega
structure LHd (l : List Nat) (t : Nat) (l' : List Nat) (b e : Nat) : Prop where
  H : HOk (hm l) b e
  be : b ≤ e
  el : e ≤ l.length
  rest : l.drop e = l'
  tok : (S l).cps.extract b e = #[t]
theorem lineK_ok {o : List Nat} (h4 : 4 ≤ o.length) (h6 : o.length ≤ 6) (hd : ∀ x ∈ o, x ∈ dg6) {k : Nat} (hk : k < o.length + 1) : ∃ b e, LHd (lineK o k) ((o ++ [57]).getD k 0) (lineK o (k + 1)) b e := by
  have hl : (o ++ [57]).length = o.length + 1 := by simp
  have hmem : ∀ x ∈ o ++ [57], x ∈ digs := by
    intro x hx
    rcases List.mem_append.mp hx with h | h
    · exact (by decide : ∀ x ∈ dg6, x ∈ digs) x (hd x h)
    · rw [List.mem_singleton.mp h]; decide
  have hdrop : (o ++ [57]).drop k = (o ++ [57]).getD k 0 :: (o ++ [57]).drop (k + 1) := by
    have hlt : k < (o ++ [57]).length := by omega
    rw [List.drop_eq_getElem_cons hlt, List.getD_eq_getElem?_getD, List.getElem?_eq_getElem hlt]; rfl
  have ht : (o ++ [57]).getD k 0 ∈ digs := hmem _ (getD_mem (by omega))
  have hr : ((o ++ [57]).drop (k + 1)).length ≤ 6 := by rw [List.length_drop]; omega
  have e1 : lineK o (k + 1) = lineB ((o ++ [57]).drop (k + 1)) := by unfold lineK; rw [if_neg (by omega)]
  rw [e1]
  by_cases h0 : k = 0
  · subst h0
    have e0 : lineK o 0 = lineA ((o ++ [57]).getD 0 0 :: (o ++ [57]).drop 1) := by
      unfold lineK; rw [if_pos rfl, ← hdrop, List.drop_zero]
    rw [e0]
    have hr4 : 4 ≤ ((o ++ [57]).drop 1).length := by rw [List.length_drop]; omega
    exact ⟨0, 1, headA ht _ hr4 hr, by omega, by simp [lineA], rfl, by simp [S, lineA]⟩
  · have e0 : lineK o k = lineB ((o ++ [57]).getD k 0 :: (o ++ [57]).drop (k + 1)) := by
      unfold lineK; rw [if_neg h0, ← hdrop]
    rw [e0]
    exact ⟨1, 2, headB ht _ hr, by omega, by rw [lineB_len]; simp only [List.length_cons]; omega, rfl, by simp [S, lineB]⟩
theorem join_line (o : List Nat) (h : o.length ≤ 6) : Txt.join (Str.ofString " ") (signs (S o)) = S (lineA o) ∧ JoinOk (Str.ofString " ") (signs (S o)) = true := by
  match o, h with
  | [], _ => exact ⟨by kernel_rfl, by kernel_rfl⟩
  | [_], _ => exact ⟨by kernel_rfl, by kernel_rfl⟩
  | [_, _], _ => exact ⟨by kernel_rfl, by kernel_rfl⟩
  | [_, _, _], _ => exact ⟨by kernel_rfl, by kernel_rfl⟩
  | [_, _, _, _], _ => exact ⟨by kernel_rfl, by kernel_rfl⟩
  | [_, _, _, _, _], _ => exact ⟨by kernel_rfl, by kernel_rfl⟩
  | [_, _, _, _, _, _], _ => exact ⟨by kernel_rfl, by kernel_rfl⟩
theorem lineA_app (o : List Nat) (h : o ≠ []) : lineA o ++ [32, 57] = lineK o 0 := by
  unfold lineK
  rw [if_pos rfl]
  cases o with
  | nil => exact absurd rfl h
  | cons a r => simp [lineA, lineB]
section
variable {prog : Program} {w : World} {A : Around} {E : Value → Shared → Prop} {s : Shared} {Q : Value → Shared → Prop} {h₀ : Heap} {L : Addr} {m : Str → Option Value} {news : List (Addr × Obj)}
theorem k_join {o : List Nat} {t u : Tok} (hh : A.handled = none) (F : Fr h₀ L s.heap m) (N : News h₀ L s.heap news) (ho : o.length ≤ 6)
    (h : ∀ h' k t', Fr h₀ L h' m → News h₀ L h' news → Q (.str (S (lineA o)) t') { s with heap := h', toks := k }) :
    wpAny (model prog w) A (call (.builtin "str.join") [.str (Str.ofString " ") t, .str (S o) u]) Q E s := by
  obtain ⟨e1, e2⟩ := join_line o ho
  refine join_strF hh F N e2 fun h' k t' F' N' => ?_
  rw [e1]; exact h h' k t' F' N'
theorem k_add9 {a : List Nat} {t u : Tok} (ha : a.length ≤ 1000) (h : ∀ t' k, Q (.str (S (a ++ [32, 57])) t') { s with toks := k }) : wpAny (model prog w) A (binaryOp .Add (.str (S a) t) (.str (Str.ofString " 9") u)) Q E s :=
  k_add (b := [32, 57]) (by simp only [List.length_cons, List.length_nil]; omega) h
theorem k_addDot {a : List Nat} {t u : Tok} (ha : a.length ≤ 1000) (h : ∀ t' k, Q (.str (S (a ++ [46])) t') { s with toks := k }) : wpAny (model prog w) A (binaryOp .Add (.str (S a) t) (.str (Str.ofString ".") u)) Q E s :=
  k_add (b := [46]) (by simp only [List.length_cons, List.length_nil]; omega) h
theorem k_append {D : Addr} {vs : List Value} {n : Nat} {x : Value} (keep : List (Addr × Obj)) (F : Fr h₀ L s.heap m) (N : News h₀ L s.heap news) (hm : (D, listOf vs.toArray n) ∈ news) (hk : ∀ p ∈ keep, p ∈ news) (hne : ∀ p ∈ keep, p.1 ≠ D) (hl : vs.length ≤ 1000)
    (h : ∀ n' h', Fr h₀ L h' m → News h₀ L h' ((D, listOf (vs ++ [x]).toArray n') :: keep) → Q .none { s with heap := h' }) :
    wpAny (model prog w) A (call (.builtin "list.append") [.ref D, x]) Q E s := by
  have hD := N _ hm
  refine wpAny_list_append_plain (items := vs.toArray) ⟨n, hD.1⟩ (fun h' hpl hs => ?_) (by rw [List.size_toArray, sizeLine_eq]; omega)
  obtain ⟨n', hp⟩ := hpl
  have e : vs.toArray.push x = (vs ++ [x]).toArray := by simp
  rw [e] at hp
  refine h n' h' (F.change hs hD.2.1 hD.2.2) fun p hp' => ?_
  rcases List.mem_cons.mp hp' with rfl | hp'
  · exact ⟨hp, hD.2⟩
  · exact ⟨(hs.2 p.1 (hne p hp')).trans (N p (hk p hp')).1, (N p (hk p hp')).2⟩
end
end Mine
namespace Mine
open PySem.StrLaws
def mx (l : List Nat) : Nat := l.foldl max 0
theorem mx_take (l : List Nat) : ∀ k, k < l.length → l.getD (argBest (fun i j => decide (l.getD i 0 > l.getD j 0)) k) 0 = mx (l.take (k + 1)) := by
  intro k
  induction k with
  | zero =>
    intro h
    cases l with
    | nil => simp at h
    | cons a r => simp [argBest, mx]
  | succ k ih =>
    intro h
    have ih := ih (by omega)
    have e : l.take (k + 1 + 1) = l.take (k + 1) ++ [l.getD (k + 1) 0] := by
      rw [List.take_add_one, List.getD_eq_getElem?_getD, List.getElem?_eq_getElem h]; rfl
    unfold mx at ih ⊢
    rw [e, List.foldl_append, ← ih]
    show l.getD (if _ then k + 1 else _) 0 = max _ _
    split
    · rename_i hc
      rw [decide_eq_true_eq] at hc
      omega
    · rename_i hc
      rw [decide_eq_true_eq] at hc
      omega
theorem mx_eq {l : List Nat} (h : 0 < l.length) : l.getD (argBest (fun i j => decide (l.getD i 0 > l.getD j 0)) (l.length - 1)) 0 = mx l := by
  rw [mx_take l _ (by omega), show l.length - 1 + 1 = l.length by omega, List.take_length]
section
variable {prog : Program} {w : World} {A : Around} {E : Value → Shared → Prop} {s : Shared} {l : List Nat} {t : Tok} {Q : Value → Shared → Prop} {h₀ : Heap} {L : Addr} {m : Str → Option Value} {news : List (Addr × Obj)}
theorem gt_lists {a b : Nat} : decide ([b] < [a]) = decide (a > b) := by
  rw [lt_cons_cons]; simp
theorem cmp_signs (A : Around) : CmpOf prog w A .Gt (SignAt (S l)) (fun i j => decide (l.getD i 0 > l.getD j 0)) := fun i j vi vj s Q E hi hj h => by
  obtain ⟨c, u, hc, rfl⟩ := hi
  obtain ⟨d, u', hd, rfl⟩ := hj
  have ec : l.getD i 0 = c := by
    have : l[i]? = some c := by simpa [S] using hc
    rw [List.getD_eq_getElem?_getD, this]; rfl
  have ed : l.getD j 0 = d := by
    have : l[j]? = some d := by simpa [S] using hd
    rw [List.getD_eq_getElem?_getD, this]; rfl
  dsimp only at h
  rw [ec, ed] at h
  refine richCompare_gives (op := .Gt) (typeIs_str s _ u) (typeIs_str s _ u') F.slot_str_gt F.entry_str_gt (F.args_str_gt_2 _ _) (gives_str_gt _ _ u u') (fun x => nomatch x) ?_
  have e : (decide ((⟨#[d]⟩ : Str).cps.toList < (⟨#[c]⟩ : Str).cps.toList)) = decide (c > d) := gt_lists
  rw [e]; exact h
theorem k_max (hh : A.handled = none) (F : Fr h₀ L s.heap m) (N : News h₀ L s.heap news) (hl : 0 < l.length)
    (h : ∀ h' k t', Fr h₀ L h' m → News h₀ L h' news → Q (.str (S [mx l]) t') { s with heap := h', toks := k }) :
    wpAny (model prog w) A (call (.builtin "max") [.str (S l) t]) Q E s := by
  refine call_max_walk (wpAny_pyIter_str fun o St W st => ?_)
  have hsz : (S l).cps.size = l.length := by simp [S]
  have hk0 : ∀ h' : Heap, (∀ b o', b ∉ [s.heap.objs.size] → (s.heap.push o).get? b = some o' → h'.get? b = some o') → ∀ b o', s.heap.get? b = some o' → h'.get? b = some o' := fun h' hk b o' e =>
    hk b o' (fun hm => by rw [List.mem_singleton.mp hm] at e; exact Nat.lt_irrefl _ (Heap.lt_size e)) (Heap.get?_push_of_some _ e)
  refine ⟨_, _, _, _, _, _, fun i j => decide (l.getD i 0 > l.getD j 0), rfl, W A.in1 hh, st, fun b hb => ?_, by rw [hsz]; exact hl, cmp_signs _, fun v h' tk hP hk => ?_⟩
  · rw [List.mem_singleton.mp hb]
    show _ < (s.heap.push _).objs.size
    rw [Heap.size_push]; exact Nat.lt_succ_self _
  · obtain ⟨c, u, hc, rfl⟩ := hP
    have e : mx l = c := by
      rw [hsz] at hc
      rw [← mx_eq hl]
      have : l[argBest (fun i j => decide (l.getD i 0 > l.getD j 0)) (l.length - 1)]? = some c := by simpa [S] using hc
      rw [List.getD_eq_getElem?_getD, this]; rfl
    subst e
    exact h h' tk u (F.grownK (hk0 h' hk)) (N.grown (hk0 h' hk))
theorem k_index {c : Nat} {u : Tok} (_hA : A.handled = none) (hc : c ∈ l)
    (h : ∀ i, i < l.length → l.getD i 0 = c → Q (.int (i : Int) s.toks) { s with toks := s.toks + 1 }) :
    wpAny (model prog w) A (call (.builtin "str.index") [.str (S l) t, .str (S [c]) u]) Q E s := by
  cases ho : Builtin.Str.occurrences (S l) (S [c]) 0 (S l).length 1 with
  | nil =>
    have := found_one (S l) c
    have e : (⟨#[c]⟩ : Str) = S [c] := rfl
    rw [e, ho, S_cps] at this
    simp [hc] at this
  | cons i rest =>
    refine SC.index ho ?_
    have h1 := occ_spec (S l) (S [c]) 0 (S l).length 1 i (by rw [ho]; exact .head _)
    have h2 := (subAt_one (S l) c i).mp h1
    rw [S_cps] at h2
    obtain ⟨hlt, he⟩ := List.getElem?_eq_some_iff.mp h2
    exact h i hlt (by rw [List.getD_eq_getElem?_getD, h2]; rfl)
end
def pos (l : List Nat) (c : Nat) : Nat := (l.takeWhile (· != c)).length
theorem pos_eq : ∀ {l : List Nat} {i : Nat} {c : Nat}, l.Nodup → i < l.length → l.getD i 0 = c → i = pos l c
  | [], i, c, _, h, _ => by simp at h
  | a :: r, 0, c, _, _, h => by
    have h : a = c := h
    subst h; simp [pos]
  | a :: r, i + 1, c, hn, hi, h => by
    have hi' : i < r.length := by simpa using hi
    have hc : r.getD i 0 = c := by simpa using h
    have ih := pos_eq (List.nodup_cons.mp hn).2 hi' hc
    have hm : c ∈ r := by
      rw [← hc, List.getD_eq_getElem?_getD, List.getElem?_eq_getElem hi']; exact List.getElem_mem _
    have ha : a ≠ c := fun e => (List.nodup_cons.mp hn).1 (e ▸ hm)
    have hb : (a != c) = true := by simp [ha]
    unfold pos at ih ⊢
    rw [List.takeWhile_cons, hb]
    simp only [if_true, List.length_cons]
    omega
theorem best_le (bt : Nat → Nat → Bool) : ∀ k, argBest bt k ≤ k
  | 0 => Nat.le_refl _
  | k + 1 => by
    have ih := best_le bt k
    show (if _ then k + 1 else argBest bt k) ≤ k + 1
    split
    · exact Nat.le_refl _
    · exact Nat.le_succ_of_le ih
theorem mx_mem {l : List Nat} (h : 0 < l.length) : mx l ∈ l := by
  have hb := best_le (fun i j => decide (l.getD i 0 > l.getD j 0)) (l.length - 1)
  rw [← mx_eq h, List.getD_eq_getElem?_getD, List.getElem?_eq_getElem (by omega)]
  exact List.getElem_mem _
end Mine
namespace Mine
local macro_rules | `(tactic| walk_at "MPost") => `(tactic| dsimp only [MPost])
local macro_rules | `(tactic| walk_at "call builtin:len") => `(tactic| (((with_reducible show wpAny _ _ (call (Value.builtin "len") [Value.str (S _) _]) _ _ _); refine k_len (by first | omega | (simp only [List.length_drop, List.length_take, List.length_append, List.length_cons, List.length_nil]; omega)) ?_); (try dsimp only)))
local macro_rules | `(tactic| walk_at "truthy str") => `(tactic| (((with_reducible show wpAny _ _ (truthy (Value.str (S _) _)) _ _ _); first | (with_reducible refine k_truthyD (by first | omega | (simp only [List.length_drop, List.length_take, List.length_append, List.length_cons, List.length_nil]; omega)) ?_) | (with_reducible refine k_truthyT (by first | omega | (simp only [List.length_drop, List.length_take, List.length_append, List.length_cons, List.length_nil]; omega)) (by first | omega | (simp only [List.length_drop, List.length_take, List.length_append, List.length_cons, List.length_nil]; omega)) ?_) | refine k_truthy (by first | omega | (simp only [List.length_drop, List.length_take, List.length_append, List.length_cons, List.length_nil]; omega)) ?_); (try dsimp only)))
local macro_rules | `(tactic| walk_at "compareOp Eq str str") => `(tactic| (first | with_reducible refine k_eq1 ?_ | with_reducible refine k_eq ?_; (try dsimp only)))
local macro_rules | `(tactic| walk_at "compareOp NotEq str str") => `(tactic| (with_reducible refine k_ne ?_; (try dsimp only)))
local macro_rules | `(tactic| walk_at "compareOp Lt str str") => `(tactic| (with_reducible refine k_lt1 ?_; (try dsimp only)))
local macro_rules | `(tactic| walk_at "binaryOp Add str str") => `(tactic| (((with_reducible show wpAny _ _ (binaryOp Operator.Add (Value.str (S _) _) (Value.str (S _) _)) _ _ _); refine k_add (by first | omega | (simp only [List.length_drop, List.length_take, List.length_append, List.length_cons, List.length_nil]; omega)) ?_; intro _ _); (try dsimp only)))
local macro_rules | `(tactic| walk_at "subscriptTail") => `(tactic| (((with_reducible show wpAny _ _ (subscriptTail _ _ (Value.str (S _) _) (Value.int _ _)) _ _ _); first | (with_reducible refine k_itemm1 (by first | omega | (simp only [List.length_drop, List.length_take, List.length_append, List.length_cons, List.length_nil]; omega)) (by first | omega | (simp only [List.length_drop, List.length_take, List.length_append, List.length_cons, List.length_nil]; omega)) ?_) | (with_reducible refine k_itemn1 (by first | omega | (simp only [List.length_drop, List.length_take, List.length_append, List.length_cons, List.length_nil]; omega)) (by first | omega | (simp only [List.length_drop, List.length_take, List.length_append, List.length_cons, List.length_nil]; omega)) ?_) | (refine' k_item ?a ?b ?c ?_; (case a => first | with_reducible exact rfl | with_reducible exact (Int.natCast_succ _).symm); (case b => first | omega | (simp only [List.length_drop, List.length_take, List.length_append, List.length_cons, List.length_nil]; omega)); (case c => first | omega | (simp only [List.length_drop, List.length_take, List.length_append, List.length_cons, List.length_nil]; omega)))); (try dsimp only)))
local macro_rules | `(tactic| walk_at "subscriptTail Name Name str int") => `(tactic| (((with_reducible show wpAny _ _ (subscriptTail _ _ (Value.str (S _) _) (Value.int _ _)) _ _ _); first | (with_reducible refine k_itemm1 (by first | omega | (simp only [List.length_drop, List.length_take, List.length_append, List.length_cons, List.length_nil]; omega)) (by first | omega | (simp only [List.length_drop, List.length_take, List.length_append, List.length_cons, List.length_nil]; omega)) ?_) | (with_reducible refine k_itemn1 (by first | omega | (simp only [List.length_drop, List.length_take, List.length_append, List.length_cons, List.length_nil]; omega)) (by first | omega | (simp only [List.length_drop, List.length_take, List.length_append, List.length_cons, List.length_nil]; omega)) ?_) | (refine' k_item ?a ?b ?c ?_; (case a => first | with_reducible exact rfl | with_reducible exact (Int.natCast_succ _).symm); (case b => first | omega | (simp only [List.length_drop, List.length_take, List.length_append, List.length_cons, List.length_nil]; omega)); (case c => first | omega | (simp only [List.length_drop, List.length_take, List.length_append, List.length_cons, List.length_nil]; omega)))); (try dsimp only)))
local macro_rules | `(tactic| walk_at "subscriptTail Name BinOp str int") => `(tactic| (((with_reducible show wpAny _ _ (subscriptTail _ _ (Value.str (S _) _) (Value.int _ _)) _ _ _); first | (with_reducible refine k_itemm1 (by first | omega | (simp only [List.length_drop, List.length_take, List.length_append, List.length_cons, List.length_nil]; omega)) (by first | omega | (simp only [List.length_drop, List.length_take, List.length_append, List.length_cons, List.length_nil]; omega)) ?_) | (with_reducible refine k_itemn1 (by first | omega | (simp only [List.length_drop, List.length_take, List.length_append, List.length_cons, List.length_nil]; omega)) (by first | omega | (simp only [List.length_drop, List.length_take, List.length_append, List.length_cons, List.length_nil]; omega)) ?_) | (refine' k_item ?a ?b ?c ?_; (case a => first | with_reducible exact rfl | with_reducible exact (Int.natCast_succ _).symm); (case b => first | omega | (simp only [List.length_drop, List.length_take, List.length_append, List.length_cons, List.length_nil]; omega)); (case c => first | omega | (simp only [List.length_drop, List.length_take, List.length_append, List.length_cons, List.length_nil]; omega)))); (try dsimp only)))
local macro_rules | `(tactic| walk_at "subscriptTail Name Constant str int") => `(tactic| (((with_reducible show wpAny _ _ (subscriptTail _ _ (Value.str (S _) _) (Value.int _ _)) _ _ _); first | (with_reducible refine k_itemm1 (by first | omega | (simp only [List.length_drop, List.length_take, List.length_append, List.length_cons, List.length_nil]; omega)) (by first | omega | (simp only [List.length_drop, List.length_take, List.length_append, List.length_cons, List.length_nil]; omega)) ?_) | (with_reducible refine k_itemn1 (by first | omega | (simp only [List.length_drop, List.length_take, List.length_append, List.length_cons, List.length_nil]; omega)) (by first | omega | (simp only [List.length_drop, List.length_take, List.length_append, List.length_cons, List.length_nil]; omega)) ?_) | (refine' k_item ?a ?b ?c ?_; (case a => first | with_reducible exact rfl | with_reducible exact (Int.natCast_succ _).symm); (case b => first | omega | (simp only [List.length_drop, List.length_take, List.length_append, List.length_cons, List.length_nil]; omega)); (case c => first | omega | (simp only [List.length_drop, List.length_take, List.length_append, List.length_cons, List.length_nil]; omega)))); (try dsimp only)))
local macro_rules | `(tactic| walk_at "subscriptTail Name UnaryOp str int") => `(tactic| (((with_reducible show wpAny _ _ (subscriptTail _ _ (Value.str (S _) _) (Value.int _ _)) _ _ _); first | (with_reducible refine k_itemm1 (by first | omega | (simp only [List.length_drop, List.length_take, List.length_append, List.length_cons, List.length_nil]; omega)) (by first | omega | (simp only [List.length_drop, List.length_take, List.length_append, List.length_cons, List.length_nil]; omega)) ?_) | (with_reducible refine k_itemn1 (by first | omega | (simp only [List.length_drop, List.length_take, List.length_append, List.length_cons, List.length_nil]; omega)) (by first | omega | (simp only [List.length_drop, List.length_take, List.length_append, List.length_cons, List.length_nil]; omega)) ?_) | (refine' k_item ?a ?b ?c ?_; (case a => first | with_reducible exact rfl | with_reducible exact (Int.natCast_succ _).symm); (case b => first | omega | (simp only [List.length_drop, List.length_take, List.length_append, List.length_cons, List.length_nil]; omega)); (case c => first | omega | (simp only [List.length_drop, List.length_take, List.length_append, List.length_cons, List.length_nil]; omega)))); (try dsimp only)))
local macro_rules | `(tactic| walk_at "subscriptTail Name Slice str ref") => `(tactic| (((with_reducible show wpAny _ _ (subscriptTail _ (Expr.Slice (some _) none none _) (Value.str (S _) _) (Value.ref _)) _ _ _); (with_reducible rename Fr _ _ _ _ => F'); (with_reducible rename News _ _ _ _ => N'); (refine' k_slF (s := ⟨_, _, _, _, _⟩) (hs := hs_sl) (ht := ht_nm) ?a ?b ?c F' N' ?_; (case a => first | with_reducible exact rfl | with_reducible exact (Int.natCast_succ _).symm); (case b => first | omega | (simp only [List.length_drop, List.length_take, List.length_append, List.length_cons, List.length_nil]; omega)); (case c => first | omega | (simp only [List.length_drop, List.length_take, List.length_append, List.length_cons, List.length_nil]; omega))); intro _ _ _ _ _); (try dsimp only)))
local macro_rules | `(tactic| walk_at "subscriptTail Name Slice str ref") => `(tactic| (((with_reducible show wpAny _ _ (subscriptTail _ (Expr.Slice none (some _) none _) (Value.str (S _) _) (Value.ref _)) _ _ _); (with_reducible rename Fr _ _ _ _ => F'); (with_reducible rename News _ _ _ _ => N'); (first | (refine' k_slN (s := ⟨_, _, _, _, _⟩) (hs := hs_sl) (ht := ht_nm) ?a ?z ?b ?c F' N' ?_; (case a => with_reducible exact rfl); (case z => first | omega | (simp only [List.length_drop, List.length_take, List.length_append, List.length_cons, List.length_nil]; omega)); (case b => first | omega | (simp only [List.length_drop, List.length_take, List.length_append, List.length_cons, List.length_nil]; omega)); (case c => first | omega | (simp only [List.length_drop, List.length_take, List.length_append, List.length_cons, List.length_nil]; omega))) | (refine' k_slA (s := ⟨_, _, _, _, _⟩) (hs := hs_sl) (ht := ht_nm) ?c F' N' ?_; (case c => first | omega | (simp only [List.length_drop, List.length_take, List.length_append, List.length_cons, List.length_nil]; omega))) | (refine' k_slT (s := ⟨_, _, _, _, _⟩) (hs := hs_sl) (ht := ht_nm) ?a ?b ?c F' N' ?_; (case a => first | with_reducible exact rfl | with_reducible exact (Int.natCast_succ _).symm); (case b => first | omega | (simp only [List.length_drop, List.length_take, List.length_append, List.length_cons, List.length_nil]; omega)); (case c => first | omega | (simp only [List.length_drop, List.length_take, List.length_append, List.length_cons, List.length_nil]; omega)))); intro _ _ _ _ _); (try dsimp only)))
local macro_rules | `(tactic| walk_at "subscriptTail Name Slice str ref") => `(tactic| (((with_reducible show wpAny _ _ (subscriptTail _ (Expr.Slice none none none _) (Value.str (S _) _) (Value.ref _)) _ _ _); (with_reducible rename Fr _ _ _ _ => F'); (with_reducible rename News _ _ _ _ => N'); (refine' k_slA (s := ⟨_, _, _, _, _⟩) (hs := hs_sl) (ht := ht_nm) ?c F' N' ?_; (case c => first | omega | (simp only [List.length_drop, List.length_take, List.length_append, List.length_cons, List.length_nil]; omega))); intro _ _ _ _ _); (try dsimp only)))
local macro_rules | `(tactic| walk_at "subscriptTail Name Slice str ref") => `(tactic| (((with_reducible show wpAny _ _ (subscriptTail _ (Expr.Slice (some _) (some _) none _) (Value.str (S _) _) (Value.ref _)) _ _ _); (with_reducible rename Fr _ _ _ _ => F'); (with_reducible rename News _ _ _ _ => N'); (refine' k_slS (s := ⟨_, _, _, _, _⟩) (hs := hs_sl) (ht := ht_nm) ?a ?a2 ?b ?b2 ?c F' N' ?_; (case a => first | with_reducible exact rfl | with_reducible exact (Int.natCast_succ _).symm); (case a2 => first | with_reducible exact rfl | with_reducible exact (Int.natCast_succ _).symm); (case b => first | omega | (simp only [List.length_drop, List.length_take, List.length_append, List.length_cons, List.length_nil]; omega)); (case b2 => first | omega | (simp only [List.length_drop, List.length_take, List.length_append, List.length_cons, List.length_nil]; omega)); (case c => first | omega | (simp only [List.length_drop, List.length_take, List.length_append, List.length_cons, List.length_nil]; omega))); intro _ _ _ _ _); (try dsimp only)))
local macro_rules | `(tactic| walk_at "exec While") => `(tactic| with_reducible refine hold_of ?_)
local macro_rules | `(tactic| walk_at "exec While BoolOp") => `(tactic| with_reducible refine hold_of ?_)
local macro_rules | `(tactic| walk_at "exec While BoolOp nil") => `(tactic| with_reducible refine hold_of ?_)
local macro_rules | `(tactic| walk_at "exec While BoolOp cons") => `(tactic| with_reducible refine hold_of ?_)
local macro_rules | `(tactic| walk_at "exec While BoolOp cons nil") => `(tactic| with_reducible refine hold_of ?_)
local macro_rules | `(tactic| walk_at "exec For") => `(tactic| with_reducible refine hold_of ?_)
local macro_rules | `(tactic| walk_at "exec For Name") => `(tactic| with_reducible refine hold_of ?_)
local macro_rules | `(tactic| walk_at "exec For Name Name") => `(tactic| with_reducible refine hold_of ?_)
local macro_rules | `(tactic| walk_at "exec For Name Name cons nil") => `(tactic| with_reducible refine hold_of ?_)
local macro_rules | `(tactic| walk_at "exec For Name Call") => `(tactic| with_reducible refine hold_of ?_)
local macro_rules | `(tactic| walk_at "exec For Name Call cons nil") => `(tactic| with_reducible refine hold_of ?_)
local macro_rules | `(tactic| walk_at "exec For Name Subscript") => `(tactic| with_reducible refine hold_of ?_)
local macro_rules | `(tactic| walk_at "exec For Name Subscript cons nil") => `(tactic| with_reducible refine hold_of ?_)
local macro_rules | `(tactic| walk_at "pyIter ref") => `(tactic| with_reducible refine hold_of ?_)
local macro_rules | `(tactic| walk_at "pyIter str") => `(tactic| with_reducible refine hold_of ?_)
local macro_rules | `(tactic| walk_at "WPost") => `(tactic| dsimp only [WPost])
local macro_rules | `(tactic| walk_at "truthy int") => `(tactic| first | (with_reducible refine k_tint1 (by omega) ?_) | (with_reducible refine k_tint0 (by omega) ?_))
local macro_rules | `(tactic| walk_at "Cut") => `(tactic| dsimp only [Cut])
section
local macro_rules | `(tactic| walk_at "call type:list") => `(tactic| k_extra "typelist")
local macro_rules | `(tactic| walk_at "setItem ref int") => `(tactic| k_extra "setitem")
local macro_rules | `(tactic| walk_at "call ref") => `(tactic| k_extra "callref")
abbrev cLev : ToldN (List Nat × List Nat × Int) where
  Rel := fun _ vs d => ∃ t u v, vs = [.str (S d.1) t, .str (S d.2.1) u, .int d.2.2 v]
  Ok := fun d => d.1.length ≤ 20 ∧ d.2.1.length ≤ 20 ∧ (∀ x ∈ d.1, x ∈ alpha) ∧ (∀ x ∈ d.2.1, x ∈ alpha) ∧ -1000 ≤ d.2.2 ∧ d.2.2 ≤ 1000
  size := fun _ => 2
  Tl := fun tl => tl = []
  Out := fun _ r d => ∃ t, r = .int (lev d.1 d.2.1 d.2.2) t
theorem levm {w : World} {mean mg mb} : TN w mean mg mb 83 cLev := by
  delta TN PR VW LO
  k_fill
  refine tellsN_of fun d IH => ?_
  unfold TellsN
  intro dp un gd cn cs a ccd cl outer A₀ base h₀ L m news s vs Q E B F X N T hk hR hok hd hu hret
  obtain ⟨la, lb, mx⟩ := d
  obtain ⟨t, u, v, e⟩ := hR
  dsimp only at hok hret e
  subst e
  obtain ⟨hla, hlb, hca, hcb, hm1, hm2⟩ := hok
  clear IH
  replace hd : dp + 2 < recursionLimit := hd
  replace hu : un + 8 * 2 < cLine := hu
  have Csub : TN w mean mg mb 76 cSub := Mine.sub
  delta TN PR VW LO at Csub
  refine wpAny_call ?_
  k_dflt ktr_enter
  k_steps
  · rename (la = lb) => e1
    exact hret _ [] _ _ (by k_asm) (ktn_tl0 (by k_asm)) ktn_ord0 rfl (ktn_int (by unfold lev; rw [if_pos e1]))
  (rename ¬(la = lb) => hne)
  refine of_hold ?_
  (rename Fr _ _ _ _ => lF')
  (rename News _ _ _ _ => lN')
  have hlc := lcp_le la lb
  refine my_whileC (σ := Nat × Tok) (fun c => [(Str.ofString "pre", .int (c.1 : Int) c.2)]) [Str.ofString "pre"] (fun c => c.1 ≤ lcp la lb) (fun c => c.1 = lcp la lb) (fun c => lcp la lb - c.1) (0, _) lF' lN' (by kst_all) (Nat.zero_le _) ?turn ?done
  case turn =>
    rintro ⟨q, tq⟩ u' h9 tk9 hq F9 N9
    clear lF' lN'
    dsimp only [kstB] at F9
    dsimp only at hq
    k_fold
    k_steps
    all_goals first
      | exact wdone (q, tq) (by k_asm) (by k_asm) (lcp_stop hq (by rintro ⟨x1, x2, x3⟩; first | (exact absurd x1 (by assumption)) | (exact absurd x2 (by assumption)) | (exact absurd x3 (by assumption))))
      | exact wend (q + 1, _) (by k_asm) (by k_asm) (by kst_inAny) (by kst_all) (by ksw_same) (lcp_go hq (by assumption) (by assumption) (by assumption)) (by have := lcp_go hq (by assumption) (by assumption) (by assumption); dsimp only; omega)
  case done =>
    rintro ⟨q, tq⟩ u' h9 tk9 hq F9 N9
    dsimp only at hq
    subst hq
    clear lF' lN'
    dsimp only [kstB] at F9
    try k_fold
    k_steps
    refine of_hold ?_
    have hl1 : (la.drop (lcp la lb)).length ≤ 20 := by rw [List.length_drop]; omega
    have hl2 : (lb.drop (lcp la lb)).length ≤ 20 := by rw [List.length_drop]; omega
    have hA : ∃ x, x = la.drop (lcp la lb) := ⟨_, rfl⟩
    have hB : ∃ x, x = lb.drop (lcp la lb) := ⟨_, rfl⟩
    obtain ⟨xa, hxa⟩ := hA
    obtain ⟨xb, hxb⟩ := hB
    rw [← hxa] at hl1
    rw [← hxb] at hl2
    (rename Fr _ _ _ _ => lF')
    (rename News _ _ _ _ => lN')
    rw [← hxa, ← hxb] at lF'
    have hlc := lcs_le xa xb
    refine my_whileC (σ := Nat × Tok) (fun c => [(Str.ofString "post", .int (-(c.1 : Int)) c.2)]) [Str.ofString "post"] (fun c => c.1 ≤ lcs xa xb) (fun c => c.1 = lcs xa xb) (fun c => lcs xa xb - c.1) (0, _) lF' lN' (by kst_all) (Nat.zero_le _) ?turn ?done
    case turn =>
      rintro ⟨_ | q, tq⟩ u' h9 tk9 hq F9 N9
      · clear lF' lN'
        dsimp only [kstB] at F9
        dsimp only at hq
        rw [Int.natCast_zero, Int.neg_zero] at F9
        k_fold
        k_steps
        all_goals first
          | exact wdone (0, tq) (by k_asm) (by k_asm) (lcs_stop hq (by rintro ⟨x1, x2, x3⟩; first | (exact absurd x1 (by assumption)) | (exact absurd x2 (by assumption)) | (exact absurd x3 (by assumption)) | omega))
          | exact wend (0 + 1, _) (by k_asm) (by k_asm) (by kst_inAny) (by kst_all) (by ksw_same) (lcs_go hq (by first | assumption | omega) (by first | assumption | omega) (by assumption)) (by have := lcs_go hq (by first | assumption | omega) (by first | assumption | omega) (by assumption); dsimp only; omega)
      · clear lF' lN'
        dsimp only [kstB] at F9
        dsimp only at hq
        k_fold
        k_steps
        all_goals first
          | exact wdone (q + 1, tq) (by k_asm) (by k_asm) (lcs_stop hq (by rintro ⟨x1, x2, x3⟩; first | (exact absurd x1 (by assumption)) | (exact absurd x2 (by assumption)) | (exact absurd x3 (by assumption)) | omega))
          | exact wend (q + 1 + 1, _) (by k_asm) (by k_asm) (by kst_inAny) (by kst_all) (by ksw_same) (lcs_go hq (by first | assumption | omega) (by first | assumption | omega) (by assumption)) (by have := lcs_go hq (by first | assumption | omega) (by first | assumption | omega) (by assumption); dsimp only; omega)
    case done =>
      rintro ⟨q, tq⟩ u' h9 tk9 hq F9 N9
      dsimp only at hq
      clear lF' lN'
      dsimp only [kstB] at F9
      dsimp only
      have hql : q ≤ xa.length ∧ q ≤ xb.length := by omega
      refine cutC F9 N9 (σ := Tok) (fun t => [(Str.ofString "a", .str (S (xa.take (xa.length - q))) t)]) (fun _ => True) ?first ?next
      case first =>
        clear hq
        obtain _ | q := q
        · have e0 : xa.take (xa.length - 0) = xa := by simp
          rw [e0]
          rw [Int.natCast_zero, Int.neg_zero] at F9
          try k_fold
          k_steps
          exact cut_end (_ : Tok) (by k_asm) (by k_asm) (by kst_inAny) (by kst_all) (by intro z h2; simp only [List.forall_mem_cons, List.not_mem_nil, false_implies, implies_true, and_true, ne_eq] at h2; simp [h2]) trivial
        · try k_fold
          k_steps
          exact cut_end (_ : Tok) (by k_asm) (by k_asm) (by kst_inAny) (by kst_all) (by intro z h2; simp only [List.forall_mem_cons, List.not_mem_nil, false_implies, implies_true, and_true, ne_eq] at h2; simp [h2]) trivial
      case next =>
        rintro ta h9 tk9 - F9 N9
        dsimp only [kstB] at F9
        refine cutC F9 N9 (σ := Tok) (fun t => [(Str.ofString "b", .str (S (xb.take (xb.length - q))) t)]) (fun _ => True) ?first ?next
        case first =>
          clear hq
          obtain _ | q := q
          · have e0 : xb.take (xb.length - 0) = xb := by simp
            rw [e0]
            rw [Int.natCast_zero, Int.neg_zero] at F9
            try k_fold
            k_steps
            exact cut_end (_ : Tok) (by k_asm) (by k_asm) (by kst_inAny) (by kst_all) (by intro z h2; simp only [List.forall_mem_cons, List.not_mem_nil, false_implies, implies_true, and_true, ne_eq] at h2; simp [h2]) trivial
          · try k_fold
            k_steps
            exact cut_end (_ : Tok) (by k_asm) (by k_asm) (by kst_inAny) (by kst_all) (by intro z h2; simp only [List.forall_mem_cons, List.not_mem_nil, false_implies, implies_true, and_true, ne_eq] at h2; simp [h2]) trivial
        case next =>
          rintro tb h9 tk9 - F9 N9
          dsimp only [kstB] at F9
          have hya : (xa.take (xa.length - q)).length ≤ 20 := by rw [List.length_take]; omega
          have hyb : (xb.take (xb.length - q)).length ≤ 20 := by rw [List.length_take]; omega
          have hlev : lev la lb mx = levC (xa.take (xa.length - q)) (xb.take (xb.length - q)) mx := by
            unfold lev
            rw [if_neg hne]
            dsimp only
            rw [← hxa, ← hxb, ← hq]
          rw [hlev] at hret
          have hcy : ∀ x ∈ xa.take (xa.length - q), x ∈ alpha := by
            rw [hxa]; exact fun x hx => hca x (List.mem_of_mem_drop (List.mem_of_mem_take hx))
          have hcz : ∀ x ∈ xb.take (xb.length - q), x ∈ alpha := by
            rw [hxb]; exact fun x hx => hcb x (List.mem_of_mem_drop (List.mem_of_mem_take hx))
          have hY : ∃ x, x = xa.take (xa.length - q) := ⟨_, rfl⟩
          have hZ : ∃ x, x = xb.take (xb.length - q) := ⟨_, rfl⟩
          obtain ⟨ya, hYa⟩ := hY
          obtain ⟨yb, hYb⟩ := hZ
          rw [← hYa, ← hYb] at hret
          rw [← hYa] at hya hcy
          rw [← hYb] at hyb hcz
          rw [← hYa, ← hYb] at F9
          refine cutC F9 N9 (σ := Unit) (fun _ => []) (fun _ => ya.length ≠ 0 ∧ yb.length ≠ 0) ?first ?next
          case first =>
            k_fold
            k_steps
            all_goals first
              | exact cut_end () (by k_asm) (by k_asm) (by kst_inAny) (by kst_all) (fun _ _ => rfl) ⟨by omega, by omega⟩
              | exact hret _ [] _ _ (by k_asm) (ktn_tl0 (by k_asm)) ktn_ord0 rfl (ktn_int (by unfold levC; rw [if_pos (by omega)]))
          case next =>
            rintro - h9 tk9 ⟨hn1, hn2⟩ F9 N9
            dsimp only [kstB] at F9
            refine cutC F9 N9 (σ := Unit) (fun _ => []) (fun _ => True) ?first ?next
            case first =>
              k_fold
              k_steps
              exact cut_end () (by k_asm) (by k_asm) (by kst_inAny) (by kst_all) (fun _ _ => rfl) trivial
            case next =>
              rintro - h9 tk9 - F9 N9
              dsimp only [kstB] at F9
              refine cutC F9 N9 (σ := List Nat × List Nat × Tok × Tok) (fun c => [(Str.ofString "a", .str (S c.1) c.2.2.1), (Str.ofString "b", .str (S c.2.1) c.2.2.2)])
                (fun c => levC ya yb mx = levS c.1 c.2.1 mx ∧ c.1.length ≤ 20 ∧ c.2.1.length ≤ 20 ∧ c.1.length ≠ 0 ∧ c.1.length ≤ c.2.1.length ∧ (∀ x ∈ c.1, x ∈ alpha) ∧ (∀ x ∈ c.2.1, x ∈ alpha)) ?first ?next
              case first =>
                k_fold
                k_steps
                all_goals first
                  | exact cut_end (ya, yb, _, _) (by k_asm) (by k_asm) (by kst_inAny) (by kst_all) (fun _ _ => rfl) ⟨by unfold levC; rw [if_neg (by omega), if_neg (by omega)], hya, hyb, hn1, by dsimp only; omega, hcy, hcz⟩
                  | exact cut_end (yb, ya, _, _) (by k_asm) (by k_asm) (by kst_inAny) (by kst_all) (by intro z h2; simp only [List.forall_mem_cons, List.not_mem_nil, false_implies, implies_true, and_true, ne_eq] at h2; simp [h2]) ⟨by unfold levC; rw [if_neg (by omega), if_pos (by omega)], hyb, hya, hn2, by dsimp only; omega, hcz, hcy⟩
              case next =>
                rintro ⟨x, y, tx, ty⟩ h9 tk9 ⟨hl0, hlx, hly, hx0, hxy, hcx, hcy'⟩ F9 N9
                dsimp only [kstB] at F9 hl0 hlx hly hx0 hxy hcx hcy'
                rw [hl0] at hret
                refine cutC F9 N9 (σ := Unit) (fun _ => []) (fun _ => ¬ mx < ((y.length : Int) - x.length) * 2) ?first ?next
                case first =>
                  k_fold
                  k_steps
                  all_goals first
                    | exact cut_end () (by k_asm) (by k_asm) (by kst_inAny) (by kst_all) (fun _ _ => rfl) (by assumption)
                    | exact hret _ [] _ _ (by k_asm) (ktn_tl0 (by k_asm)) ktn_ord0 rfl (ktn_int (by unfold levS; rw [if_pos (by assumption)]))
                case next =>
                  rintro - h9 tk9 hmx F9 N9
                  dsimp only [kstB] at F9
                  have hlS : levS x y mx = levD x y mx := by unfold levS; rw [if_neg hmx]
                  rw [hlS] at hret
                  try k_fold
                  k_with "typelist" => ((rename IsRange _ _ _ _ _ _ _ _ => rgX); (rename Fr _ _ _ _ => F'); (rename News _ _ _ _ => N'); (refine k_row0 rfl F' N' rgX rfl (by omega) ?_); intro D0 us0 c0 h0' tk0' F0' N0' hD0 hI0)
                  k_steps
                  refine of_hold ?_
                  refine For_invVF (by k_asm) rfl rfl ?_
                  k_steps
                  refine of_hold ?_
                  (rename IsRange _ _ _ _ _ _ _ _ => rgX)
                  (rename Fr _ _ _ _ => lF')
                  (rename News _ _ _ _ => lN')
                  refine my_range (σ := (List Value × List Int) × (Int × Tok)) y.length (fun c => (D0, listOf c.1.1.toArray c0) :: news) (fun c => [(Str.ofString "result", .int c.2.1 c.2.2)])
                    [Str.ofString "bchar", Str.ofString "distance", Str.ofString "result", Str.ofString "minimum", Str.ofString "index", Str.ofString "substitute", Str.ofString "insert_delete"]
                    (fun k c => iter (lout x y mx) k (some (row0 x.length, 0)) = some (c.1.2, c.2.1) ∧ IntsAre c.1.1 c.1.2 ∧ c.1.2.length = x.length) ((us0, row0 x.length), (0, _)) rfl rgX (small_one (by omega) (by omega) (by omega) (by omega)) (rangeSize_nat _ _) lF' lN' (by kst_all) ⟨rfl, hI0, row0_len _⟩ ?turn ?done
                  case done =>
                    rintro ⟨⟨us, row⟩, res, tr⟩ u9 h9 tk9 ⟨hit, hI, hlen⟩ F9 N9
                    clear lF' lN'
                    dsimp only [kstB] at F9
                    dsimp only at hit
                    have hD : levD x y mx = res := by unfold levD; rw [hit]
                    rw [hD] at hret
                    k_steps
                    exact hret _ [] _ _ (by k_asm) (ktn_tl0 (cb_drop (by k_asm) fun p hp => .tail _ hp)) ktn_ord0 rfl ⟨_, rfl⟩
                  case turn =>
                    rintro ⟨⟨us, row⟩, res, tr⟩ k tk0 u9 h9 tk9 own9 hk hoff ⟨hit, hI, hlen⟩ F9 N9
                    clear lF' lN'
                    dsimp only [kstB] at F9
                    dsimp only at hit hI hlen
                    rw [Int.zero_add] at F9
                    have hky := hcy' _ (getD_mem hk)
                    try k_fold
                    k_steps
                    refine of_hold ?_
                    refine For_invVF (by k_asm) rfl rfl ?_
                    k_steps
                    refine of_hold ?_
                    (rename IsRange _ _ _ _ _ _ _ _ => rgX)
                    (rename Fr _ _ _ _ => lF')
                    (rename News _ _ _ _ => lN')
                    refine my_range (σ := (List Value × List Int) × (Int × Tok) × (Int × Tok) × (Int × Tok)) x.length (fun c => ((D0, listOf c.1.1.toArray c0) :: news) ++ own9)
                      (fun c => [(Str.ofString "distance", .int c.2.1.1 c.2.1.2), (Str.ofString "result", .int c.2.2.1.1 c.2.2.1.2), (Str.ofString "minimum", .int c.2.2.2.1 c.2.2.2.2)])
                      [Str.ofString "distance", Str.ofString "result", Str.ofString "minimum", Str.ofString "substitute", Str.ofString "insert_delete"]
                      (fun i c => iter (lin (y.getD k 0) x) i (row, (k : Int) * 2, (k : Int) * 2, 9223372036854775807) = (c.1.2, c.2.1.1, c.2.2.1.1, c.2.2.2.1) ∧ IntsAre c.1.1 c.1.2 ∧ c.1.2.length = x.length)
                      ((us, row), (_, _), (_, _), (_, _)) rfl rgX (small_one (by omega) (by omega) (by omega) (by omega)) (rangeSize_nat _ _) lF' lN' (by kst_all) ⟨rfl, hI, hlen⟩ ?turn ?done
                    case done =>
                      rintro ⟨⟨us2, row2⟩, ⟨d, td⟩, ⟨r, tr2⟩, mn, tm⟩ u8 h8 tk8 ⟨hit2, hI2, hlen2⟩ F8 N8
                      clear lF' lN'
                      dsimp only [kstB] at F8
                      dsimp only at hit2 hI2 hlen2
                      k_steps
                      all_goals first
                        | exact ks_end ((us2, row2), (r, _)) (by k_asm) (by k_asm) (by kst_inAny) (by kst_anyIn) rfl (by kst_all) (by kst_same) ⟨by
                            show lout x y mx k (iter (lout x y mx) k _) = _
                            rw [hit]; unfold lout; dsimp only; rw [hit2]; dsimp only; rw [if_neg (by assumption)], hI2, hlen2⟩
                        | (have hz : iter (lout x y mx) (k + 1) (some (row0 x.length, 0)) = none := by
                            show lout x y mx k (iter (lout x y mx) k _) = _
                            rw [hit]; unfold lout; dsimp only; rw [hit2]; dsimp only; rw [if_pos (by assumption)]
                           exact hret _ [] _ _ (by k_asm) (ktn_tl0 (cb_drop (by k_asm) fun p hp => List.mem_append.mpr (.inl (.tail _ hp)))) ktn_ord0 rfl (ktn_int (by unfold levD; rw [lout_none_le hz hk])))
                    case turn =>
                      rintro ⟨⟨us2, row2⟩, ⟨d, td⟩, ⟨r, tr2⟩, mn, tm⟩ i ti u8 h8 tk8 own8 hi hoff8 ⟨hit2, hI2, hlen2⟩ F8 N8
                      clear lF' lN'
                      dsimp only [kstB] at F8
                      dsimp only at hit2 hI2 hlen2
                      rw [Int.zero_add] at F8
                      have hix := hcx _ (getD_mem hi)
                      try k_fold
                      k_with "callref" => (refine' tellsN_use (c := cSub) (d := (y.getD k 0, x.getD i 0)) ?k1 ?k2 ?k3 ?k4 ?k5 ?kK ?kR (Csub _) ?ko ?kd ?ku ?_; (case k1 => k_asm); (case k2 => k_asm); (case k3 => k_asm); (case k4 => k_asm); (case k5 => k_asm); (case kK => first | exact rfl | assumption); (case kR => exact ⟨_, _, rfl⟩); (case ko => exact ⟨hky, hix⟩); (case kd => ktr_room); (case ku => ktr_units); intro r9 tl9 h9' tk9' F9' N9' hl9 ht9 ho9; (replace ht9 : tl9 = [] := ht9); subst ht9; clear hl9; rw [List.append_nil] at N9'; obtain ⟨t9, e9⟩ := ho9; subst e9; (try dsimp only))
                      k_with "setitem" => ((rename Fr _ _ _ _ => F'); (rename News _ _ _ _ => N'); refine ksa_set F' N' (Upd.head (fun p hp => by
                        rcases List.mem_append.mp hp with hp | hp
                        · rcases List.mem_append.mp hp with hp | hp
                          · exact Nat.ne_of_lt (hD0 p hp)
                          · exact hoff p hp D0 (.head _)
                        · exact hoff8 p hp D0 (.head _))) hI2 (by omega) (by omega) (by omega) ?_; intro h6 F6 N6 hI6 hl6 hs6; rw [Int.toNat_natCast] at N6 hI6 hl6)
                      k_steps
                      k_with_none
                      · (rename (_ : Int) < mn => hlt)
                        exact ks_end ((_, _), (_, _), (_, _), (_, _)) (by k_asm) (by k_asm) (by exact List.forall_mem_cons.mpr ⟨.head _, fun p hp => .tail _ (List.mem_append.mpr (.inl hp))⟩)
                          (by exact fun p hp => .tail _ (List.mem_append.mpr (.inr hp))) (by exact rfl) (by kst_all) (by kst_same) (by
                          refine ⟨?_, hI6, hl6.trans hlen2⟩
                          show lin (y.getD k 0) x i (iter (lin (y.getD k 0) x) i _) = _
                          rw [hit2]
                          exact congrArg (fun z => ((_, _, _, z) : LSt)) (if_pos hlt))
                      · (rename ¬ ((_ : Int) < mn) => hlt)
                        exact ks_end ((_, _), (_, _), (_, _), (_, _)) (by k_asm) (by k_asm) (by exact List.forall_mem_cons.mpr ⟨.head _, fun p hp => .tail _ (List.mem_append.mpr (.inl hp))⟩)
                          (by exact fun p hp => .tail _ (List.mem_append.mpr (.inr hp))) (by exact rfl) (by kst_all) (by kst_same) (by
                          refine ⟨?_, hI6, hl6.trans hlen2⟩
                          show lin (y.getD k 0) x i (iter (lin (y.getD k 0) x) i _) = _
                          rw [hit2]
                          exact congrArg (fun z => ((_, _, _, z) : LSt)) (if_neg hlt))
end
section
local macro_rules | `(tactic| walk_at "subscriptTail Name Slice ref ref") => `(tactic| ((with_reducible show wpAny _ _ (subscriptTail _ (Expr.Slice (some _) none (some _) _) (Value.ref _) (Value.ref _)) _ _ _); k_extra "slist"))
local macro_rules | `(tactic| walk_at "binaryOp Mod int int") => `(tactic| k_extra "mod")
local macro_rules | `(tactic| walk_at "call builtin:sum") => `(tactic| k_extra "sum")
/-- the orders of n of the signs that are left, place by place -/
def arr : Nat → List Nat → List (List Nat)
  | 0, _ => [[]]
  | n + 1, left => (List.range left.length).flatMap fun i => (arr n (left.take i ++ left.drop (i + 1))).map (left.getD i 0 :: ·)
theorem arr_cons {n i : Nat} {left r : List Nat} (hi : i < left.length) (hr : r ∈ arr n (left.take i ++ left.drop (i + 1))) : left.getD i 0 :: r ∈ arr (n + 1) left :=
  List.mem_flatMap.mpr ⟨i, List.mem_range.mpr hi, List.mem_map.mpr ⟨r, hr, rfl⟩⟩
section
variable {prog : Program} {w : World} {A : Around} {E : Value → Shared → Prop} {s : Shared} {Q : Value → Shared → Prop} {h₀ : Heap} {L : Addr} {m : Str → Option Value} {news : List (Addr × Obj)} {value slice : Expr}
theorem k_mod {a b : Int} {t u : Tok} (hb : 0 < b) (h : ∀ p : Nat, (p : Int) < b → Q (.int (p : Int) s.toks) { s with toks := s.toks + 1 }) : wpAny (model prog w) A (binaryOp .Mod (.int a t) (.int b u)) Q E s := by
  refine mod_int (by omega) ?_
  have h0 : 0 ≤ a.fmod b := Int.fmod_nonneg_of_pos a hb
  have h1 : a.fmod b < b := Int.fmod_lt_of_pos a hb
  have e : a.fmod b = ((a.fmod b).toNat : Int) := (Int.toNat_of_nonneg h0).symm
  rw [e]
  exact h _ (by omega)
theorem k_slist {l : Addr} {vs : List Value} {ns : List Int} {i st : Int} {ti ts : Tok} (F : Fr h₀ L s.heap m) (N : News h₀ L s.heap news) (hl : s.heap.IsList l vs.toArray) (hi : IntsAre vs ns) (hst : st ≠ 0) (hn : ns.length ≤ 63)
    (h : ∀ D ws ms h', Fr h₀ L h' m → News h₀ L h' ((D, listOf (List.toArray ws) 0) :: news) → (∀ p ∈ news, p.1 < D) → IntsAre ws ms → ms.length ≤ 63 → Q (.ref D) { s with heap := h' })
    (hs : subscripted slice false (.ref l) (.ref s.heap.objs.size) = operate [.ref l, .ref s.heap.objs.size] (getItem (.ref l) (.ref s.heap.objs.size)) := by with_unfolding_all rfl)
    (ht : ∀ r, letTemporaryGo value (.ref l) r = pure () := by intro _; with_unfolding_all rfl) :
    wpAny (model prog w) A (subscriptTail value slice (.ref l) (.ref s.heap.objs.size)) Q E { s with heap := s.heap.push { cls := .type "slice", data := .fields #[.int i ti, .none, .int st ts] } } := by
  have hsz : vs.toArray.size ≤ sizeLine := by
    rw [List.size_toArray, hi.length, sizeLine_eq]; omega
  refine subscriptTail_ops (Heap.IsList.typeIs (s := { s with heap := s.heap.push { cls := .type "slice", data := .fields #[.int i ti, .none, .int st ts] } }) (hl.push _)) list_getitem_lookup
    (wpAny_getItem_list_slice (hl.push _) (Heap.IsSliceOf.new ..) (.int i ti) .none (.int st ts) (by intro e; cases e; exact hst rfl) ?_ hsz) hs ht
  have F1 := F.push { cls := .type "slice", data := .fields #[.int i ti, .none, .int st ts] }
  have N1 := News.push F1 (N.grown fun _ _ e => Heap.get?_push_of_some _ e) { cls := .type "list", data := .seq (slicePick vs.toArray (some i) none (some st)) }
  have hp := hi.pick (some i) none (some st)
  have hle := slicePick_size_le vs.toArray (some i) none (some st)
  refine h _ (slicePick vs.toArray (some i) none (some st)).toList _ _ (F1.push _) ?_ (fun p hp' => ?_) hp ?_
  · rw [Array.toArray_toList]; exact N1
  · rw [Heap.size_push]; exact Nat.lt_succ_of_lt (Heap.lt_size (N p hp').1)
  · rw [← hp.length, Array.length_toList]
    have e : vs.toArray.size = ns.length := by rw [List.size_toArray, hi.length]
    omega
end
theorem ord {w : World} {mean mg mb} (dp un : Nat) (gd : Option (List Code)) (cn : Str) (cs : Scope) (a : Addr) (ccd : Value) (cl : List (Str × Addr)) (outer : List Env) (A₀ : Around) (base h₀ : Heap) (L : Addr) (m : Str → Option Value) (news : List (Addr × Obj)) (s : Shared)
    (l : Addr) (vs : List Value) (ns : List Int) (sg : List Nat) (t : Tok) (Q E : Value → Shared → Prop)
    (B : Below A₀ base outer h₀) (F : Fr h₀ L s.heap m) (X : (Mine.hd.heap_39 w.params).In h₀) (N : News h₀ L s.heap news) (T : Top Mine.hd.view_39 (looseW Mine.hd.view_39 [Str.ofString "HEADER_TOKEN_RE", Str.ofString "IPV4_RE"]) mean mg mb h₀) (hk : cs.kind = .function)
    (hl : h₀.IsList l vs.toArray) (hi : IntsAre vs ns) (hn : ns.length ≤ 63) (hsg : sg.length ≤ 6) (hd : dp + 1 < recursionLimit) (hu : un + 8 < cLine)
    (hret : ∀ o t' h' tk', Fr h₀ L h' m → News h₀ L h' news → o ∈ arr sg.length sg → Q (.str (S o) t') { s with heap := h', toks := tk' }) :
    wpAny (model Challenge.rw_xg0050_01.row.prog w) (ktrTop dp un gd cn cs L a ccd cl outer) (call (.ref 90) [.ref l, .str (S sg) t]) Q E s := by
  revert X
  k_fill
  intro X
  refine wpAny_call ?_
  k_dflt ktr_enter
  (rename Fr _ _ _ m => FGx)
  have hl' := hl.at fun o e => FGx.keep _ o e
  k_steps
  refine of_hold ?_
  refine For_invVF (by k_asm) rfl rfl ?_
  k_steps
  refine of_hold ?_
  (rename IsRange _ _ _ _ _ _ _ _ => rgX)
  (rename Fr _ _ _ _ => lF')
  (rename News _ _ _ _ => lN')
  refine my_rangeC (σ := (List Nat × Tok) × (List Nat × Tok)) sg.length (fun c => [(Str.ofString "left", .str (S c.1.1) c.1.2), (Str.ofString "order", .str (S c.2.1) c.2.2)]) [Str.ofString "pick", Str.ofString "order", Str.ofString "left"]
    (fun k c => c.1.1.length + k = sg.length ∧ c.2.1.length = k ∧ ∀ r ∈ arr (sg.length - k) c.1.1, c.2.1 ++ r ∈ arr sg.length sg) ((sg, _), ([], _)) rfl rgX (small_one (by omega) (by omega) (by omega) (by omega)) (rangeSize_nat _ _) lF' lN' (by kst_all) ⟨rfl, rfl, fun r hr => hr⟩ ?turn ?done
  case done =>
    rintro ⟨⟨lf, t1⟩, ⟨od, t2⟩⟩ u9 h9 tk9 ⟨hlf, hod, har⟩ F9 N9
    clear lF' lN'
    dsimp only [kstB] at F9
    dsimp only at hlf hod har
    have ho : od ∈ arr sg.length sg := by
      have := har [] (by rw [Nat.sub_self]; exact .head _)
      rwa [List.append_nil] at this
    k_steps
    exact hret _ _ _ _ (by k_asm) (by k_asm) ho
  case turn =>
    rintro ⟨⟨lf, t1⟩, ⟨od, t2⟩⟩ k tk0 u9 h9 tk9 own9 hk9 hoff ⟨hlf, hod, har⟩ F9 N9
    clear lF' lN'
    dsimp only [kstB] at F9
    dsimp only at hlf hod har
    rw [Int.zero_add] at F9
    try k_fold
    refine cutC F9 N9 (σ := Nat × Tok) (fun c => [(Str.ofString "pick", .int (c.1 : Int) c.2)]) (fun c => c.1 < lf.length) ?first ?next
    case first =>
      try k_fold
      k_with "mod" => (refine k_mod (by omega) ?_; intro p6 hp6)
      k_with "slist" => ((rename Fr _ _ _ _ => F'); (rename News _ _ _ _ => N'); refine k_slist (s := ⟨_, _, _, _, _⟩) F' N' (hl'.at fun o e => F'.keep _ o e) hi (by omega) hn ?_; intro D6 ws6 ms6 h6 F6 N6 hD6 hI6 hm6)
      k_with "sum" => ((rename Fr _ _ _ _ => F'); (rename News _ _ _ _ => N'); refine LSm.sum_ints F' N' rfl ⟨_, (N' _ (.head _)).1, rfl, _, rfl⟩ (by assumption) ?_; intro h6' k6' t6' F6' N6')
      k_steps
      exact cut_end (p6, _) (by k_asm) (by k_asm) (by kst_anyIn) (by kst_all) (by intro z h2; simp only [List.forall_mem_cons, List.not_mem_nil, false_implies, implies_true, and_true, ne_eq] at h2; simp [h2]) (by dsimp only; omega)
    case next =>
      rintro ⟨p, tp⟩ h8 tk8 hp F8 N8
      dsimp only [kstB] at F8
      dsimp only at hp
      try k_fold
      k_steps
      have hln : sg.length - k = sg.length - (k + 1) + 1 := by omega
      exact ks_end ((lf.take p ++ lf.drop (p + 1), _), (od ++ [lf.getD p 0], _)) (by k_asm) (by k_asm) (by kst_inAny) (by kst_anyIn) rfl (by kst_all) (by kst_same)
        ⟨by simp only [List.length_append, List.length_take, List.length_drop]; omega, by simp [hod], fun r hr => by
          have := har (lf.getD p 0 :: r) (by rw [hln]; exact arr_cons hp hr)
          rw [List.append_assoc]; exact this⟩
end
section
local macro_rules | `(tactic| walk_at "call ref") => `(tactic| k_extra "callref")
local macro_rules | `(tactic| walk_at "call builtin:max") => `(tactic| k_extra "max")
local macro_rules | `(tactic| walk_at "call builtin:str.index") => `(tactic| k_extra "index")
def ruleF : Nat → List Nat → List Nat
  | 0, _ => []
  | n + 1, o => if o.length = 0 then [] else ruleF n (o.take (pos o (mx o))) ++ ruleF n (o.drop (pos o (mx o) + 1)) ++ [o.getD (pos o (mx o)) 0]
theorem ruleF_len : ∀ n o, (ruleF n o).length + 1 ≤ 2 ^ n
  | 0, o => by simp [ruleF]
  | n + 1, o => by
    have h1 := ruleF_len n (o.take (pos o (mx o)))
    have h2 := ruleF_len n (o.drop (pos o (mx o) + 1))
    have e : 2 ^ (n + 1) = 2 * 2 ^ n := by rw [Nat.pow_succ]; omega
    rw [e]
    unfold ruleF
    split
    · simp only [List.length_nil]; omega
    · simp only [List.length_append, List.length_cons, List.length_nil]; omega
abbrev cRule : ToldN (Nat × List Nat) where
  Rel := fun _ vs d => ∃ t, vs = [.str (S d.2) t]
  Ok := fun d => d.2.length ≤ d.1 ∧ d.1 ≤ 6 ∧ d.2.Nodup
  size := fun d => d.1 + 1
  Tl := fun tl => tl = []
  Out := fun _ r d => ∃ t, r = .str (S (ruleF d.1 d.2)) t
theorem rule {w : World} {mean mg mb} : TN w mean mg mb 104 cRule := by
  delta TN PR VW LO
  k_fill
  refine tellsN_of fun d IH => ?_
  unfold TellsN
  intro dp un gd cn cs a ccd cl outer A₀ base h₀ L m news s vs Q E B F X N T hk hR hok hd hu hret
  obtain ⟨f, o⟩ := d
  obtain ⟨t, rfl⟩ := hR
  obtain ⟨hof, hf6, hnd⟩ := hok
  dsimp only at hof hf6 hnd hd hu hret
  refine wpAny_call ?_
  k_dflt ktr_enter
  by_cases h0 : o.length = 0
  · have h0' : o = [] := List.length_eq_zero_iff.mp h0
    subst h0'
    k_steps
    all_goals first
      | exact hret _ [] _ _ (by k_asm) (ktn_tl0 (by k_asm)) ktn_ord0 rfl ⟨_, by cases f <;> rfl⟩
      | ((rename _ = false => hbad); exact absurd (show (S [] == Str.ofString "") = false from hbad) (by decide))
  · cases f with
    | zero => omega
    | succ f =>
      have hlen : ∀ l, (ruleF f l).length ≤ 100 := fun l => by
        have h1 := ruleF_len f l
        have h2 : 2 ^ f ≤ 2 ^ 5 := Nat.pow_le_pow_right (by omega) (by omega)
        omega
      have hm : mx o ∈ o := mx_mem (by omega)
      k_with "max" => ((rename Fr _ _ _ _ => F'); (rename News _ _ _ _ => N'); refine k_max rfl F' N' (by omega) ?_; intro h6' k6' t6' F6' N6')
      k_with "index" => (refine k_index rfl hm ?_; intro i hi he; have hA := hlen (o.take i); have hB := hlen (o.drop (i + 1)))
      k_with "callref" => first
        | (refine' tellsN_use (c := cRule) (d := (f, o.take i)) ?k1 ?k2 ?k3 ?k4 ?k5 ?kK ?kR (IH (f, o.take i) (by dsimp only; omega)) ?ko ?kd ?ku ?_; (case k1 => k_asm); (case k2 => k_asm); (case k3 => k_asm); (case k4 => k_asm); (case k5 => k_asm); (case kK => first | exact rfl | assumption); (case kR => exact ⟨_, by with_reducible rfl⟩); (case ko => exact ⟨by dsimp only; rw [List.length_take]; omega, by dsimp only; omega, hnd.sublist (List.take_sublist _ _)⟩); (case kd => ktr_room); (case ku => ktr_units); intro r9 tl9 h9' tk9' F9' N9' hl9 ht9 ho9; (replace ht9 : tl9 = [] := ht9); subst ht9; clear hl9; rw [List.append_nil] at N9'; (obtain ⟨t9, e9⟩ := ho9; subst e9); (try dsimp only))
        | (refine' tellsN_use (c := cRule) (d := (f, o.drop (i + 1))) ?k1 ?k2 ?k3 ?k4 ?k5 ?kK ?kR (IH (f, o.drop (i + 1)) (by dsimp only; omega)) ?ko ?kd ?ku ?_; (case k1 => k_asm); (case k2 => k_asm); (case k3 => k_asm); (case k4 => k_asm); (case k5 => k_asm); (case kK => first | exact rfl | assumption); (case kR => exact ⟨_, by with_reducible rfl⟩); (case ko => exact ⟨by dsimp only; rw [List.length_drop]; omega, by dsimp only; omega, hnd.sublist (List.drop_sublist _ _)⟩); (case kd => ktr_room); (case ku => ktr_units); intro r9 tl9 h9' tk9' F9' N9' hl9 ht9 ho9; (replace ht9 : tl9 = [] := ht9); subst ht9; clear hl9; rw [List.append_nil] at N9'; (obtain ⟨t9, e9⟩ := ho9; subst e9); (try dsimp only))
      k_steps
      k_with_none
      · (rename _ = true => hbad)
        exact absurd (congrArg List.length (S_inj (b := []) (eq_of_beq hbad))) h0
      · have hpe := pos_eq hnd hi he
        subst hpe
        have e : ruleF (f + 1) o = ruleF f (o.take (pos o (mx o))) ++ ruleF f (o.drop (pos o (mx o) + 1)) ++ [o.getD (pos o (mx o)) 0] := by
          show (if o.length = 0 then _ else _) = _
          rw [if_neg h0]
        exact hret _ [] _ _ (by k_asm) (ktn_tl0 (by k_asm)) ktn_ord0 rfl ⟨_, by rw [e]⟩
end
section
local macro_rules | `(tactic| walk_at "call ref") => `(tactic| k_extra "callref")
local macro_rules | `(tactic| walk_at "call builtin:str.index") => `(tactic| k_extra "index")
local macro_rules | `(tactic| walk_at "binaryOp Add str str") => `(tactic| first | (with_reducible refine k_dotl (by simp only [List.length_append, List.length_cons, List.length_nil]; omega) ?_; intro _ _) | (with_reducible refine k_dotr (by simp only [List.length_append, List.length_cons, List.length_nil]; omega) ?_; intro _ _) | (with_reducible refine k_add (by simp only [List.length_append, List.length_cons, List.length_nil]; omega) ?_; intro _ _))
def held (o sg : List Nat) (j i : Nat) : Bool := (sg.drop (j + 1)).any fun c => ellB (sg.getD j 0) c (sg.getD i 0) o
def pairsB (o row sg : List Nat) : Bool := (List.range sg.length).all fun j => (List.range j).all fun i => held o sg j i == decide (pos row (sg.getD j 0) < pos row (sg.getD i 0))
theorem pairs_at {o row sg : List Nat} (h : pairsB o row sg = true) {j i : Nat} (hj : j < sg.length) (hi : i < j) : held o sg j i = decide (pos row (sg.getD j 0) < pos row (sg.getD i 0)) := by
  unfold pairsB at h
  simp only [List.all_eq_true, List.mem_range, beq_iff_eq] at h
  exact h j hj i hi
theorem any_take {l : List Nat} {f : Nat → Bool} {i n : Nat} (h : l[i]? = some n) : (l.take (i + 1)).any f = ((l.take i).any f || f n) := by
  rw [List.take_add_one, h, List.any_append]; simp
section
variable {prog : Program} {w : World} {A : Around} {E : Value → Shared → Prop} {s : Shared} {Q : Value → Shared → Prop}
theorem k_dotl {b : List Nat} {t u : Tok} (ha : b.length ≤ 1000) (h : ∀ t' k, Q (.str (S ([46, 46, 46] ++ b)) t') { s with toks := k }) : wpAny (model prog w) A (binaryOp .Add (.str (Str.ofString "...") t) (.str (S b) u)) Q E s :=
  k_add (a := [46, 46, 46]) (by simp only [List.length_cons, List.length_nil]; omega) h
theorem k_dotr {a : List Nat} {t u : Tok} (ha : a.length ≤ 1000) (h : ∀ t' k, Q (.str (S (a ++ [46, 46, 46])) t') { s with toks := k }) : wpAny (model prog w) A (binaryOp .Add (.str (S a) t) (.str (Str.ofString "...") u)) Q E s :=
  k_add (b := [46, 46, 46]) (by simp only [List.length_cons, List.length_nil]; omega) h
end
abbrev cPrs : ToldN (List Nat × List Nat × List Nat) where
  Rel := fun _ vs d => ∃ t u v, vs = [.str (S d.1) t, .str (S d.2.1) u, .str (S d.2.2) v]
  Ok := fun d => d.1.length ≤ 20 ∧ d.2.2.Pairwise (· < ·) ∧ (∀ x ∈ d.2.2, x ∈ dg) ∧ 1 ≤ d.2.2.length ∧ d.2.2.length ≤ 6 ∧ d.2.1.Nodup ∧ (∀ x ∈ d.2.2, x ∈ d.2.1) ∧ pairsB d.1 d.2.1 d.2.2 = true
  size := fun _ => 2
  Tl := fun tl => tl = []
  Out := fun _ r d => r = .bool true
theorem prs {w : World} {mean mg mb} : TN w mean mg mb 111 cPrs := by
  have Cell : TN w mean mg mb 62 cEll := Mine.ellm
  delta TN PR VW LO at Cell
  delta TN PR VW LO
  k_fill
  refine tellsN_of fun d IH => ?_
  unfold TellsN
  intro dp un gd cn cs a ccd cl outer A₀ base h₀ L m news s vs Q E B F X N T hk hR hok hd hu hret
  obtain ⟨o, row, sg⟩ := d
  obtain ⟨t, u, v, rfl⟩ := hR
  obtain ⟨ho, hpw, hsg, hn1, hn6, hnd, hin, hpr⟩ := hok
  clear IH
  dsimp only at ho hpw hsg hn1 hn6 hnd hin hpr hret hd hu
  have hup : ∀ {a b : Nat}, a < b → b < sg.length → sg.getD a 0 < sg.getD b 0 := fun {a b} hab hb => by
    rw [List.getD_eq_getElem?_getD, List.getD_eq_getElem?_getD, List.getElem?_eq_getElem (show a < sg.length by omega), List.getElem?_eq_getElem hb]
    exact List.pairwise_iff_getElem.mp hpw a b (by omega) hb hab
  refine wpAny_call ?_
  k_dflt ktr_enter
  k_steps
  refine of_hold ?_
  refine For_invVF (by k_asm) rfl rfl ?_
  k_steps
  refine of_hold ?_
  (rename IsRange _ _ _ _ _ _ _ _ => rgX)
  (rename Fr _ _ _ _ => lF')
  (rename News _ _ _ _ => lN')
  refine my_rangeC (σ := Unit) (sg.length - 1) (fun _ => []) [Str.ofString "c", Str.ofString "held", Str.ofString "i"] (fun _ _ => True) () rfl rgX (small_one (by omega) (by omega) (by omega) (by omega)) (by unfold Builtin.Range.rangeSize; rw [if_pos (by omega)]; split <;> omega) lF' lN' (by kst_all) trivial ?turn ?done
  case done =>
    rintro ⟨⟩ u9 h9 tk9 - F9 N9
    clear lF' lN'
    dsimp only [kstB] at F9
    k_steps
    exact hret _ [] _ _ (by k_asm) (ktn_tl0 (by k_asm)) ktn_ord0 rfl rfl
  case turn =>
    rintro ⟨⟩ k tk0 u9 h9 tk9 own9 hk9 hoff - F9 N9
    clear lF' lN'
    dsimp only [kstB] at F9
    have ek : (1 : Int) + (k : Int) = ((k + 1 : Nat) : Int) := by omega
    rw [ek] at F9
    k_steps
    refine of_hold ?_
    refine For_invVF (by k_asm) rfl rfl ?_
    k_steps
    refine of_hold ?_
    (rename IsRange _ _ _ _ _ _ _ _ => rgX)
    (rename Fr _ _ _ _ => lF')
    (rename News _ _ _ _ => lN')
    refine my_rangeC (σ := Unit) (k + 1) (fun _ => []) [Str.ofString "c", Str.ofString "held"] (fun _ _ => True) () rfl rgX (small_one (by omega) (by omega) (by omega) (by omega)) (rangeSize_nat _ _) lF' lN' (by kst_all) trivial ?turn ?done
    case done =>
      rintro ⟨⟩ u8 h8 tk8 - F8 N8
      clear lF' lN'
      dsimp only [kstB] at F8
      k_steps
      exact ks_end () (by k_asm) (by k_asm) (by kst_inAny) (by kst_anyIn) rfl (by kst_all) (by kst_same) trivial
    case turn =>
      rintro ⟨⟩ i ti u8 h8 tk8 own8 hi8 hoff8 - F8 N8
      clear lF' lN'
      dsimp only [kstB] at F8
      rw [Int.zero_add] at F8
      have hfact := pairs_at hpr (j := k + 1) (i := i) (by omega) (by omega)
      k_steps
      refine of_hold ?_
      refine For_invVF (by k_asm) rfl rfl ?_
      k_steps
      refine of_hold ?_
      (rename Fr _ _ _ _ => lF')
      (rename News _ _ _ _ => lN')
      refine my_textC (σ := Bool) (fun c => [(Str.ofString "held", .bool c)]) [Str.ofString "held"] (fun q c => c = ((sg.drop (k + 1 + 1)).take q).any fun c => ellB (sg.getD (k + 1) 0) c (sg.getD i 0) o) false rfl lF' lN' (by kst_all) (by simp) ?turn ?done
      case turn =>
        rintro c q n tq u7 h7 tk7 own7 hq hoff7 hc F7 N7
        clear lF' lN'
        dsimp only [kstB] at F7
        have hst := any_take (f := fun c => ellB (sg.getD (k + 1) 0) c (sg.getD i 0) o) hq
        have hnm : n ∈ sg := List.mem_of_mem_drop (List.mem_of_getElem? hq)
        have hnup : sg.getD (k + 1) 0 < n := by
          rw [List.getElem?_drop] at hq
          obtain ⟨h1, h2⟩ := List.getElem?_eq_some_iff.mp hq
          have h3 := hup (a := k + 1) (b := k + 1 + 1 + q) (by omega) h1
          rw [List.getD_eq_getElem?_getD (i := k + 1 + 1 + q), List.getElem?_eq_getElem h1] at h3
          exact Nat.lt_of_lt_of_eq h3 h2
        cases hB : ellB (sg.getD (k + 1) 0) n (sg.getD i 0) o with
        | true =>
          k_with "callref" => (refine' tellsN_use (c := cEll) (d := (sg.getD (k + 1) 0, n, sg.getD i 0, o)) ?k1 ?k2 ?k3 ?k4 ?k5 ?kK ?kR (Cell _) ?ko ?kd ?ku ?_; (case k1 => k_asm); (case k2 => k_asm); (case k3 => k_asm); (case k4 => k_asm); (case k5 => k_asm); (case kK => first | exact rfl | assumption); (case kR => exact ⟨_, _, rfl⟩); (case ko => exact ⟨hsg _ (getD_mem (by omega)), hsg _ hnm, hsg _ (getD_mem (by omega)), ho, hup (by omega) (by omega), hnup⟩); (case kd => ktr_room); (case ku => ktr_units); intro r9 tl9 h9' tk9' F9' N9' hl9 ht9 ho9; (replace ht9 : tl9 = [] := ht9); subst ht9; clear hl9; rw [List.append_nil] at N9'; (replace ho9 : r9 = .bool (ellB (sg.getD (k + 1) 0) n (sg.getD i 0) o) := ho9; rw [hB] at ho9; subst ho9); (try dsimp only))
          k_steps
          k_with_none
          exact ks_end true (by k_asm) (by k_asm) (by kst_inAny) (by kst_anyIn) rfl (by kst_all) (by kst_same) (by rw [hst, hB, Bool.or_true])
        | false =>
          k_with "callref" => (refine' tellsN_use (c := cEll) (d := (sg.getD (k + 1) 0, n, sg.getD i 0, o)) ?k1 ?k2 ?k3 ?k4 ?k5 ?kK ?kR (Cell _) ?ko ?kd ?ku ?_; (case k1 => k_asm); (case k2 => k_asm); (case k3 => k_asm); (case k4 => k_asm); (case k5 => k_asm); (case kK => first | exact rfl | assumption); (case kR => exact ⟨_, _, rfl⟩); (case ko => exact ⟨hsg _ (getD_mem (by omega)), hsg _ hnm, hsg _ (getD_mem (by omega)), ho, hup (by omega) (by omega), hnup⟩); (case kd => ktr_room); (case ku => ktr_units); intro r9 tl9 h9' tk9' F9' N9' hl9 ht9 ho9; (replace ht9 : tl9 = [] := ht9); subst ht9; clear hl9; rw [List.append_nil] at N9'; (replace ho9 : r9 = .bool (ellB (sg.getD (k + 1) 0) n (sg.getD i 0) o) := ho9; rw [hB] at ho9; subst ho9); (try dsimp only))
          k_steps
          k_with_none
          exact ks_end c (by k_asm) (by k_asm) (by kst_inAny) (by kst_anyIn) rfl (by kst_all) (by kst_same) (by rw [hst, hB, Bool.or_false]; exact hc)
      case done =>
        rintro c u7 h7 tk7 hc F7 N7
        clear lF' lN'
        dsimp only [kstB] at F7
        replace hc : c = ((sg.drop (k + 1 + 1)).take (sg.drop (k + 1 + 1)).length).any fun c => ellB (sg.getD (k + 1) 0) c (sg.getD i 0) o := hc
        rw [List.take_length] at hc
        replace hc : c = held o sg (k + 1) i := hc
        rw [hfact] at hc
        by_cases hlt : pos row (sg.getD (k + 1) 0) < pos row (sg.getD i 0)
        · rw [decide_eq_true hlt] at hc
          subst hc
          k_with "index" => (refine k_index rfl (hin _ (getD_mem (by omega))) ?_; intro p6 hp6 hq6; obtain rfl := pos_eq hnd hp6 hq6)
          k_steps
          k_with_none
          · (rename _ = true => hbad)
            rw [decide_eq_true (show  ((pos row (sg.getD (k + 1) 0) : Int) < (pos row (sg.getD i 0) : Int)) by omega)] at hbad
            exact absurd hbad (by decide)
          · exact ks_end () (by k_asm) (by k_asm) (by kst_inAny) (by kst_anyIn) rfl (by kst_all) (by kst_same) trivial
        · rw [decide_eq_false hlt] at hc
          subst hc
          k_with "index" => (refine k_index rfl (hin _ (getD_mem (by omega))) ?_; intro p6 hp6 hq6; obtain rfl := pos_eq hnd hp6 hq6)
          k_steps
          k_with_none
          · (rename _ = true => hbad)
            rw [decide_eq_false (show ¬ ((pos row (sg.getD (k + 1) 0) : Int) < (pos row (sg.getD i 0) : Int)) by omega)] at hbad
            exact absurd hbad (by decide)
          · exact ks_end () (by k_asm) (by k_asm) (by kst_inAny) (by kst_anyIn) rfl (by kst_all) (by kst_same) trivial
end
section
local macro_rules | `(tactic| walk_at "call builtin:max") => `(tactic| k_extra "max")
local macro_rules | `(tactic| walk_at "call builtin:len") => `(tactic| k_extra "len")
local macro_rules | `(tactic| walk_at "exec Assign cons ListComp") => `(tactic| (k_dflt (refine LCt.Assign_ListComp_T (F₀ := by k_asm) (by rfl) (by with_unfolding_all rfl) (by with_unfolding_all rfl) (by decide) (by rfl) (by decide) (by rfl) (by rfl) (by rfl) ?_)))
local macro_rules | `(tactic| walk_at "CompSrcT") => `(tactic| with_reducible refine hold_of ?_)
open LCt LCg
def TstEnd (h₀ : Heap) (L : Addr) (m : Str → Option Value) (s₁ : Shared) (news : List (Addr × Obj)) (b ok : Bool) (s' : Shared) : Prop :=
  ok = b ∧ ∃ h' tk', s' = { s₁ with heap := h', toks := tk' } ∧ Fr h₀ L h' m ∧ News h₀ L h' news
def EltEnd (h₀ : Heap) (L : Addr) (m : Str → Option Value) (s₁ : Shared) (news : List (Addr × Obj)) (_y : Value) (s' : Shared) : Prop :=
  ∃ h' tk', s' = { s₁ with heap := h', toks := tk' } ∧ Fr h₀ L h' m ∧ News h₀ L h' news
section
variable {prog : Program} {w : World} {A : Around} {E : Value → Shared → Prop} {s : Shared} {h₀ : Heap} {L : Addr} {m : Str → Option Value} {env : Env}
theorem my_compRest {ct elt : Expr} {x : Str} {scope : Scope} {cl : List (Str × Addr)} {Fin : List Value → List (Addr × Obj) → Prop} {news : List (Addr × Obj)} {n : Nat} (test : Nat → Bool)
    (turn : ∀ (i : Nat) (ti : Tok) I oI C oC D m₂ h tk (ys : List Value) (E' : Value → Shared → Prop), i < n → NsObj oC m₂ → m₂ x = some (.int (i : Int) ti) → Fr h₀ L h m → News h₀ L h ((I, oI) :: (C, oC) :: (D, lst ys) :: news) → Off3 I C D news → ((@Ne Nat I C) ∧ (@Ne Nat I D) ∧ (@Ne Nat C D)) →
      wpAny (model prog w) A (isTrue ct (compEnvC scope cl C env) (eval ct (compEnvC scope cl C env))) (TstEnd h₀ L m { s with heap := h, toks := tk } ((I, oI) :: (C, oC) :: (D, lst ys) :: news) (test i)) E' { s with heap := h, toks := tk })
    (elts : ∀ (i : Nat) (ti : Tok) I oI C oC D m₂ h tk (ys : List Value) (E' : Value → Shared → Prop), i < n → NsObj oC m₂ → m₂ x = some (.int (i : Int) ti) → Fr h₀ L h m → News h₀ L h ((I, oI) :: (C, oC) :: (D, lst ys) :: news) → Off3 I C D news → ((@Ne Nat I C) ∧ (@Ne Nat I D) ∧ (@Ne Nat C D)) →
      wpAny (model prog w) A (eval elt (compEnvC scope cl C env)) (EltEnd h₀ L m { s with heap := h, toks := tk } ((I, oI) :: (C, oC) :: (D, lst ys) :: news)) E' { s with heap := h, toks := tk })
    (fin : ∀ ys : List Value, ys.length = ((List.range n).filter test).length → Fin ys news) :
    ∀ k i ys, i + k = n → ys.length = ((List.range i).filter test).length → CompRestT prog w A h₀ L m env ct elt x scope cl s (fun _ => True) (fun i v => ∃ t, v = .int (0 + (i : Int)) t) Fin k i ys news := by
  intro k
  induction k with
  | zero =>
    intro i ys hi hy
    have e : i = n := by omega
    subst e
    exact fin ys hy
  | succ k ih =>
    intro i ys hi hy
    refine CompRestT.succ fun v I oI C oC D m₂ h tk E' hP hC hx F N off ne => ?_
    obtain ⟨ti, rfl⟩ := hP
    rw [Int.zero_add] at hx
    refine wpAny_mono (turn i ti I oI C oC D m₂ h tk ys E' (by omega) hC hx F N off ne) (fun ok s' h1 => ?_) fun _ _ e => e
    obtain ⟨rfl, h', tk', rfl, F', N'⟩ := h1
    have hstep : ((List.range (i + 1)).filter test).length = ((List.range i).filter test).length + if test i = true then 1 else 0 := by
      rw [List.range_succ, List.filter_append, List.length_append]
      congr 1
      cases ht : test i <;> simp [List.filter, ht]
    cases ht : test i with
    | true =>
      rw [if_pos rfl]
      refine wpAny_mono (elts i ti I oI C oC D m₂ h' tk' ys E' (by omega) hC hx F' N' off ne) (fun y s'' h2 => ?_) fun _ _ e => e
      obtain ⟨h2, tk2, rfl, F2, N2⟩ := h2
      exact ⟨h2, tk2, news, rfl, F2, N2, off, trivial, ih (i + 1) (ys ++ [y]) (by omega) (by rw [hstep, ht, List.length_append, hy]; rfl)⟩
    | false =>
      rw [if_neg (by decide)]
      exact ⟨h', tk', news, rfl, F', N', off, trivial, ih (i + 1) ys (by omega) (by rw [hstep, ht, hy]; rfl)⟩
theorem my_comp {ct elt : Expr} {x : Str} {scope : Scope} {cl : List (Str × Addr)} {Fin : Shared → List Value → List (Addr × Obj) → Prop} {r : Addr} {b : Int} {t u v : Tok} {news : List (Addr × Obj)} (n : Nat) (test : Nat → Bool)
    (hh : A.handled = none) (hr : IsRange s.heap r 0 b 1 t u v) (hb : b = (n : Int)) (hn : n ≤ 1000) (F : Fr h₀ L s.heap m) (N : News h₀ L s.heap news)
    (turn : ∀ (i : Nat) (ti : Tok) I oI C oC D m₂ h tk (ys : List Value) (E' : Value → Shared → Prop), i < n → NsObj oC m₂ → m₂ x = some (.int (i : Int) ti) → Fr h₀ L h m → News h₀ L h ((I, oI) :: (C, oC) :: (D, lst ys) :: news) → Off3 I C D news → ((@Ne Nat I C) ∧ (@Ne Nat I D) ∧ (@Ne Nat C D)) →
      wpAny (model prog w) A (isTrue ct (compEnvC scope cl C env) (eval ct (compEnvC scope cl C env))) (TstEnd h₀ L m { s with heap := h, toks := tk } ((I, oI) :: (C, oC) :: (D, lst ys) :: news) (test i)) E' { s with heap := h, toks := tk })
    (elts : ∀ (i : Nat) (ti : Tok) I oI C oC D m₂ h tk (ys : List Value) (E' : Value → Shared → Prop), i < n → NsObj oC m₂ → m₂ x = some (.int (i : Int) ti) → Fr h₀ L h m → News h₀ L h ((I, oI) :: (C, oC) :: (D, lst ys) :: news) → Off3 I C D news → ((@Ne Nat I C) ∧ (@Ne Nat I D) ∧ (@Ne Nat C D)) →
      wpAny (model prog w) A (eval elt (compEnvC scope cl C env)) (EltEnd h₀ L m { s with heap := h, toks := tk } ((I, oI) :: (C, oC) :: (D, lst ys) :: news)) E' { s with heap := h, toks := tk })
    (fin : ∀ g (ys : List Value), ys.length = ((List.range n).filter test).length → Fin { s with heap := g } ys news) :
    CompSrcT prog w A h₀ L m env ct elt x scope cl Fin (.ref r) s := by
  subst hb
  refine CompSrcT.range hh F N hr (small_one (by omega) (by omega) (by omega) (by omega)) (rangeSize_nat _ _) (by rw [sizeLine_eq]; omega) fun g => ?_
  exact my_compRest (s := { s with heap := g }) test turn elts (fin g) n 0 [] (by omega) rfl
end
section
variable {prog : Program} {w : World} {A : Around} {E : Value → Shared → Prop} {s : Shared} {Q : Value → Shared → Prop} {h₀ : Heap} {L : Addr} {news : List (Addr × Obj)}
theorem k_llen {D : Addr} {us : List Value} {c : Nat} (N : News h₀ L s.heap news) (hm : (D, listOf us.toArray c) ∈ news) (hl : us.length ≤ 1000) (h : Q (.int (us.length : Int) (s.toks + 1)) { s with toks := s.toks + 1 + 1 }) :
    wpAny (model prog w) A (call (.builtin "len") [.ref D]) Q E s := kst_len N hm rfl (by omega) h
end
def cnt (o : List Nat) (e l : Nat) : Nat := ((List.range (e + 1)).filter fun k => decide (o.getD k 0 = mx ((o.drop k).take (l + 1 - k)))).length
def apt (o : List Nat) (e l : Nat) : Int :=
  4 * (max (cnt o e e) (cnt o l l) : Nat) - 2 * (min (cnt o e e) (cnt o l l) : Nat) - 2 * (cnt o e l : Nat)
abbrev cApt : ToldN (List Nat × Nat × Nat) where
  Rel := fun _ vs d => ∃ t u v, vs = [.str (S d.1) t, .int (d.2.1 : Int) u, .int (d.2.2 : Int) v]
  Ok := fun d => d.2.1 ≤ d.2.2 ∧ d.2.2 < d.1.length ∧ d.1.length ≤ 6
  size := fun _ => 1
  Tl := fun tl => tl = []
  Out := fun _ r d => ∃ t, r = .int (apt d.1 d.2.1 d.2.2) t
theorem aptm {w : World} {mean mg mb} : TN w mean mg mb 116 cApt := by
  delta TN PR VW LO
  k_fill
  refine tellsN_of fun d IH => ?_
  unfold TellsN
  intro dp un gd cn cs a ccd cl outer A₀ base h₀ L m news s vs Q E B F X N T hk hR hok hd hu hret
  obtain ⟨o, e, l⟩ := d
  obtain ⟨t, u, v, rfl⟩ := hR
  obtain ⟨hel, hlo, ho6⟩ := hok
  clear IH
  dsimp only at hel hlo ho6 hret hd hu
  refine wpAny_call ?_
  k_dflt (refine' code_defC ?k1 ?k2 ?k3 ?k4 ?k5 ?kA ?kF ?kK ?k6 ?k7 ?k8 ?k9 ?kB ?kD ?_ ?c2 ?c3 ?c4; (case kA => exact rfl); (case kF => exact rfl); (case kK => assumption); (case k1 => k_asm); (case k2 => k_asm); (case k3 => k_asm); (case k4 => k_asm); (case k5 => k_asm); (case k6 => k_is); (case k7 => k_is); (case k8 => ktr_room); (case k9 => exact BindsTo.of_eq rfl); (case kB => exact rfl); (case kD => decide +kernel); (case c2 => exact rfl); (case c3 => exact rfl); (case c4 => exact rfl); k_whole; intro g' L' h' tk' cells' FG' F' N' Y' B' X' T' l1; k_cells Y'; (try simp only [List.cons_append, List.nil_append] at N'); (try dsimp only); (try k_fold))
  k_steps
  refine of_hold ?_
  (rename IsRange _ _ _ _ _ _ _ _ => rgX)
  (rename Fr _ _ _ _ => lF')
  (rename News _ _ _ _ => lN')
  refine my_comp (e + 1) (fun k => decide (o.getD k 0 = mx ((o.drop k).take (l + 1 - k)))) rfl rgX (by show (e : Int) + 1 = ((e + 1 : Nat) : Int); omega) (by omega) lF' lN' ?turn ?elts ?fin
  case turn =>
    intro i ti I' oI' C' oC' D' m' h' tk' ys' E' hi' hC' hx' F' N' off' ne'
    clear lF' lN'
    (try simp only [LCg.Off3, and_true] at off')
    k_with "max" => ((rename Fr _ _ _ _ => F'); (rename News _ _ _ _ => N'); refine k_max rfl F' N' (by simp only [List.length_take, List.length_drop]; omega) ?_; intro h6' k6' t6' F6' N6')
    k_steps
    k_with_none
    exact ⟨rfl, _, _, rfl, by k_asm, by k_asm⟩
  case elts =>
    intro i ti I' oI' C' oC' D' m' h' tk' ys' E' hi' hC' hx' F' N' off' ne'
    clear lF' lN'
    (try simp only [LCg.Off3, and_true] at off')
    k_steps
    exact ⟨_, _, rfl, by k_asm, by k_asm⟩
  case fin =>
    intro g' ys1 hys1 D1 h' tk' F' N' off'
    clear lF' lN'
    have hb1 : ys1.length ≤ 6 := by
      rw [hys1]
      exact Nat.le_trans (List.length_filter_le _ _) (by rw [List.length_range]; omega)
    k_steps
    refine of_hold ?_
    (rename IsRange _ _ _ _ _ _ _ _ => rgX)
    (rename Fr _ _ _ _ => lF')
    (rename News _ _ _ _ => lN')
    refine my_comp (e + 1) (fun k => decide (o.getD k 0 = mx ((o.drop k).take (e + 1 - k)))) rfl rgX (by show (e : Int) + 1 = ((e + 1 : Nat) : Int); omega) (by omega) lF' lN' ?turn ?elts ?fin
    case turn =>
      intro i ti I' oI' C' oC' D' m' h' tk' ys' E' hi' hC' hx' F' N' off' ne'
      clear lF' lN'
      (try simp only [LCg.Off3, and_true] at off')
      k_with "max" => ((rename Fr _ _ _ _ => F'); (rename News _ _ _ _ => N'); refine k_max rfl F' N' (by simp only [List.length_take, List.length_drop]; omega) ?_; intro h6' k6' t6' F6' N6')
      k_steps
      k_with_none
      exact ⟨rfl, _, _, rfl, by k_asm, by k_asm⟩
    case elts =>
      intro i ti I' oI' C' oC' D' m' h' tk' ys' E' hi' hC' hx' F' N' off' ne'
      clear lF' lN'
      (try simp only [LCg.Off3, and_true] at off')
      k_steps
      exact ⟨_, _, rfl, by k_asm, by k_asm⟩
    case fin =>
      intro g' ys2 hys2 D2 h' tk' F' N' off'
      clear lF' lN'
      have hb2 : ys2.length ≤ 6 := by
        rw [hys2]
        exact Nat.le_trans (List.length_filter_le _ _) (by rw [List.length_range]; omega)
      k_steps
      refine of_hold ?_
      (rename IsRange _ _ _ _ _ _ _ _ => rgX)
      (rename Fr _ _ _ _ => lF')
      (rename News _ _ _ _ => lN')
      refine my_comp (l + 1) (fun k => decide (o.getD k 0 = mx ((o.drop k).take (l + 1 - k)))) rfl rgX (by show (l : Int) + 1 = ((l + 1 : Nat) : Int); omega) (by omega) lF' lN' ?turn ?elts ?fin
      case turn =>
        intro i ti I' oI' C' oC' D' m' h' tk' ys' E' hi' hC' hx' F' N' off' ne'
        clear lF' lN'
        (try simp only [LCg.Off3, and_true] at off')
        k_with "max" => ((rename Fr _ _ _ _ => F'); (rename News _ _ _ _ => N'); refine k_max rfl F' N' (by simp only [List.length_take, List.length_drop]; omega) ?_; intro h6' k6' t6' F6' N6')
        k_steps
        k_with_none
        exact ⟨rfl, _, _, rfl, by k_asm, by k_asm⟩
      case elts =>
        intro i ti I' oI' C' oC' D' m' h' tk' ys' E' hi' hC' hx' F' N' off' ne'
        clear lF' lN'
        (try simp only [LCg.Off3, and_true] at off')
        k_steps
        exact ⟨_, _, rfl, by k_asm, by k_asm⟩
      case fin =>
        intro g' ys3 hys3 D3 h' tk' F' N' off'
        clear lF' lN'
        have hb3 : ys3.length ≤ 6 := by
          rw [hys3]
          exact Nat.le_trans (List.length_filter_le _ _) (by rw [List.length_range]; omega)
        k_with "len" => ((rename News _ _ _ _ => N'); first | (refine k_llen N' (.head _) (by omega) ?_) | (refine k_llen N' (.tail _ (.head _)) (by omega) ?_) | (refine k_llen N' (.tail _ (.tail _ (.head _))) (by omega) ?_))
        k_steps
        k_with_none
        have e1 : cnt o e l = ys1.length := hys1.symm
        have e2 : cnt o e e = ys2.length := hys2.symm
        have e3 : cnt o l l = ys3.length := hys3.symm
        exact hret _ [] _ _ (by k_asm) (ktn_tl0 (cb_drop (by k_asm) fun p hp => .tail _ (.tail _ (.tail _ (.tail _ (.tail _ (.tail _ hp))))))) ktn_ord0 rfl (ktn_int (by
          unfold apt
          rw [e1, e2, e3]
          split <;> split <;> omega))
end
section
local macro_rules | `(tactic| walk_at "call ref") => `(tactic| k_extra "callref")
local macro_rules | `(tactic| walk_at "getMethod ref") => `(tactic| k_extra "methref")
local macro_rules | `(tactic| walk_at "call builtin:re.Pattern.search") => `(tactic| k_extra "search")
local macro_rules | `(tactic| walk_at "call builtin:re.Match.group") => `(tactic| k_extra "group")
local macro_rules | `(tactic| walk_at "call builtin:str.join") => `(tactic| k_extra "join")
local macro_rules | `(tactic| walk_at "call builtin:list.append") => `(tactic| k_extra "append")
local macro_rules | `(tactic| walk_at "binaryOp Add str str") => `(tactic| first | (with_reducible refine k_add9 (by first | omega | (simp only [List.length_append, List.length_cons, List.length_nil]; omega)) ?_; intro _ _) | (with_reducible refine k_addDot (by first | omega | (simp only [List.length_append, List.length_cons, List.length_nil]; omega)) ?_; intro _ _))
theorem k_group {prog : Program} {w : World} {A : Around} {E : Value → Shared → Prop} {s : Shared} {b a p : Addr} {x : List Nat} {t u : Tok} {lim b0 e0 : Nat} {li st en : Int} {y : Nat} {Q : Value → Shared → Prop}
    (hb : s.heap.get? b = some (matObj (S x) t p lim li a)) (ha : s.heap.get? a = some (spObj [st, en, b0, e0])) (hx : x.length ≤ 1000) (ht : (S x).cps.extract b0 e0 = #[y])
    (h : ∀ t' k, Q (.str (S [y]) t') { s with toks := k }) :
    wpAny (model prog w) A (call (.builtin "re.Match.group") [.ref b, .int 1 u]) Q E s := by
  refine call_group hb ha (sl_of (by omega)) fun t' k => ?_
  rw [ht]; exact h t' k
theorem unm_head {l l' : List Nat} {e : Nat} (h : l.drop e = l') : l.take 0 ++ l.drop e = l' := by rw [List.take_zero, List.nil_append, h]
theorem unm_top (c : Nat) (r : List Nat) : (enc (c :: r)).take (enc r).length ++ (enc (c :: r)).drop (enc (c :: r)).length = enc r := by
  rw [List.drop_length, List.append_nil, ← enc_cons, List.append_assoc, List.take_left']
  rfl
structure PBox (p : Prop) : Prop where
  un : p
theorem rst_len (o : List Nat) : ∀ k, (rst o k).2.1.length + (rst o k).1.length = k
  | 0 => rfl
  | k + 1 => by
    have ih := rst_len o k
    show ((rst o k).2.1 ++ (rst o k).1.takeWhile _).length + (_ :: (rst o k).1.dropWhile _).length = k + 1
    have e := congrArg List.length (List.takeWhile_append_dropWhile (p := (· < (o ++ [57]).getD k 0)) (l := (rst o k).1))
    simp only [List.length_append, List.length_cons] at e ⊢
    omega
theorem run {w : World} {mean mg mb} (dp un : Nat) (gd : Option (List Code)) (cn : Str) (cs : Scope) (a : Addr) (ccd : Value) (cl : List (Str × Addr)) (outer : List Env) (A₀ : Around) (base h₀ : Heap) (L : Addr) (m : Str → Option Value) (news : List (Addr × Obj)) (s : Shared)
    (o : List Nat) (t : Tok) (Q E : Value → Shared → Prop)
    (B : Below A₀ base outer h₀) (F : Fr h₀ L s.heap m) (X : (Mine.hd.heap_39 w.params).In h₀) (N : News h₀ L s.heap news) (T : Top Mine.hd.view_39 (looseW Mine.hd.view_39 [Str.ofString "HEADER_TOKEN_RE", Str.ofString "IPV4_RE"]) mean mg mb h₀) (hk : cs.kind = .function)
    (hok : okRun o = true) (hd : dp + 2 < recursionLimit) (hu : un + 8 * 2 < cLine)
    (hret : ∀ T D vs cap t1 h' tk', Fr h₀ L h' m → News h₀ L h' ((T, { cls := .type "tuple", data := .seq #[.str (S (runRow o)) t1, .ref D] }) :: (D, listOf (List.toArray vs) cap) :: news) → D < T → (∀ p ∈ news, p.1 < D) → StrsAre vs ((runSeen o).map fun st => S (enc st)) → Q (.ref T) { s with heap := h', toks := tk' }) :
    wpAny (model Challenge.rw_xg0050_01.row.prog w) (ktrTop dp un gd cn cs L a ccd cl outer) (call (.ref 97) [.str (S o) t]) Q E s := by
  revert X
  k_fill
  intro X
  unfold okRun at hok
  simp only [Bool.and_eq_true, decide_eq_true_eq, List.all_eq_true, List.mem_range] at hok
  obtain ⟨⟨⟨h6, h4⟩, hdg⟩, hrise⟩ := hok
  have hdg' : ∀ x ∈ o, x ∈ dg6 := fun x hx => List.contains_iff_mem.mp (hdg x hx)
  have Chdn : TN w mean mg mb 55 cHdn := Mine.hdn
  delta TN PR VW LO at Chdn
  have Cunm : TN w mean mg mb 38 cUnm := Mine.unm
  delta TN PR VW LO at Cunm
  have Cstr : TN w mean mg mb 69 cStr := Mine.str
  delta TN PR VW LO at Cstr
  have hlA : (lineA o).length ≤ 14 := by
    cases ho : o with
    | nil => simp [lineA]
    | cons a r =>
      have := congrArg List.length ho
      simp only [List.length_cons] at this
      show (a :: lineB r).length ≤ 14
      rw [List.length_cons, lineB_len]; omega
  have ho0 : o ≠ [] := by intro e; rw [e] at h4; simp at h4
  have hw6 : o.length ≤ 100 := by omega
  have hpk : PBox (4 ≤ o.length ∧ o.length ≤ 6) := ⟨⟨h4, h6⟩⟩
  clear h4 h6
  refine wpAny_call ?_
  k_dflt ktr_enter
  k_with "join" => ((rename Fr _ _ _ _ => F'); (rename News _ _ _ _ => N'); refine k_join rfl F' N' hpk.un.2 ?_; intro h6' k6' t6' F6' N6')
  k_steps
  refine of_hold ?_
  rename_i D0 _ hD0 _ _ _
  refine For_invVF (by k_asm) rfl rfl ?_
  k_steps
  refine of_hold ?_
  (rename IsRange _ _ _ _ _ _ _ _ => rgX)
  (rename Fr _ _ _ _ => lF')
  (rename News _ _ _ _ => lN')
  refine my_range (σ := (List Value × Nat) × (List Nat × Tok) × (List Nat × Tok) × (List Nat × Tok) × List Nat × List (List Nat)) (o.length + 1) (fun c => (D0, listOf c.1.1.toArray c.1.2) :: news)
    (fun c => [(Str.ofString "line", .str (S c.2.1.1) c.2.1.2), (Str.ofString "stack", .str (S c.2.2.1.1) c.2.2.1.2), (Str.ofString "row", .str (S c.2.2.2.1.1) c.2.2.2.1.2)])
    [Str.ofString "ahead", Str.ofString "line", Str.ofString "row", Str.ofString "stack"]
    (fun k c => c.2.1.1 = lineK o k ∧ c.2.2.1.1 = enc c.2.2.2.2.1 ∧ rst o k = (c.2.2.2.2.1, c.2.2.2.1.1, c.2.2.2.2.2) ∧ StrsAre c.1.1 (c.2.2.2.2.2.map fun st => S (enc st)) ∧ c.1.1.length = k)
    (([], 0), (lineA o ++ [32, 57], _), ([120], _), ([], _), [], []) rfl rgX (small_one (by omega) (by omega) (by omega) (by omega)) (by unfold Builtin.Range.rangeSize; rw [if_pos (by omega)]; split <;> omega) lF' lN' (by kst_all) ⟨lineA_app o ho0, rfl, rfl, .nil, rfl⟩ ?turn ?done
  case done =>
    rintro ⟨⟨us, cap⟩, ⟨ln, tl⟩, ⟨tx, ts⟩, ⟨row, tr⟩, st, sn⟩ u9 h9 tk9 ⟨hln, htx, hst, hsa, hul⟩ F9 N9
    clear lF' lN'
    dsimp only [kstB] at F9
    dsimp only at hln htx hst hsa hul
    have e1 : runRow o = row := by unfold runRow; rw [hst]
    have e2 : runSeen o = sn := by unfold runSeen; rw [hst]
    subst e1 e2
    k_steps
    exact hret _ D0 us cap _ _ _ (by k_asm) (by k_asm) (by (rename D0 < _ ∧ _ => l1); exact l1.1) hD0 hsa
  case turn =>
    obtain ⟨⟨h4, h6⟩⟩ := hpk
    rintro ⟨⟨us, cap⟩, ⟨ln, tl⟩, ⟨tx, ts⟩, ⟨row, tr⟩, st, sn⟩ k tk0 u9 h9 tk9 own9 hk9 hoff ⟨hln, htx, hst, hsa, hul⟩ F9 N9
    clear lF' lN'
    dsimp only [kstB] at F9
    dsimp only at hln htx hst hsa hul
    rw [Int.zero_add] at F9
    obtain ⟨b, e, HL⟩ := lineK_ok h4 h6 hdg' hk9
    rw [← hln] at HL
    have hll : ln.length ≤ 14 := by rw [hln]; exact lineK_len o k h6
    have hrl : row.length + st.length = k := by
      have := rst_len o k
      rwa [hst] at this
    have hri : riseB st = true := by
      have := hrise k hk9
      rwa [hst] at this
    subst htx
    try k_fold
    k_with "methref" => refine k_meth43 (by k_asm) (by k_asm) ?_
    k_with "search" => ((rename Fr _ _ _ _ => F'); (rename News _ _ _ _ => N'); refine k_head F' N' (by k_asm) (by omega) HL.H HL.be ?_; intro a1 b1 h1 li1 hab1 hn1 F1 N1)
    k_with "callref" => (refine' tellsN_use (c := cUnm) (d := (ln, 0, e)) ?k1 ?k2 ?k3 ?k4 ?k5 ?kK ?kR (Cunm _) ?ko ?kd ?ku ?_; (case k1 => k_asm); (case k2 => k_asm); (case k3 => k_asm); (case k4 => k_asm); (case k5 => k_asm); (case kK => first | exact rfl | assumption); (case kR => exact ⟨_, _, _, _, _, _, _, rfl, .head _, .tail _ (.head _)⟩); (case ko => exact ⟨by dsimp only; omega, Nat.zero_le _, HL.el⟩); (case kd => ktr_room); (case ku => ktr_units); intro r9 tl9 h9' tk9' F9' N9' hl9 ht9 ho9; (replace ht9 : tl9 = [] := ht9); subst ht9; clear hl9; rw [List.append_nil] at N9'; (obtain ⟨t9, e9⟩ := ho9; replace e9 : r9 = .str (S (lineK o (k + 1))) t9 := e9.trans (by show Value.str (S (ln.take 0 ++ ln.drop e)) t9 = _; rw [unm_head HL.rest]); subst e9); (try dsimp only))
    k_steps
    k_with_none
    refine of_hold ?_
    (rename Fr _ _ _ _ => lF')
    (rename News _ _ _ _ => lN')
    have hT : ∃ y, y = (o ++ [57]).getD k 0 := ⟨_, rfl⟩
    obtain ⟨y, hy⟩ := hT
    have htok := HL.tok
    rw [← hy] at htok
    refine my_whileC (σ := (List Nat × Tok) × (List Nat × Tok) × List Nat) (fun c => [(Str.ofString "stack", .str (S c.1.1) c.1.2), (Str.ofString "row", .str (S c.2.1.1) c.2.1.2)]) [Str.ofString "row", Str.ofString "stack"]
      (fun c => c.1.1 = enc c.2.2 ∧ riseB c.2.2 = true ∧ c.2.1.1 ++ c.2.2.takeWhile (· < y) = row ++ st.takeWhile (· < y) ∧ c.2.2.dropWhile (· < y) = st.dropWhile (· < y))
      (fun c => c.1.1 = enc (st.dropWhile (· < y)) ∧ c.2.1.1 = row ++ st.takeWhile (· < y)) (fun c => c.2.2.length) ((enc st, _), (row, _), st) lF' lN' (by kst_all) ⟨rfl, hri, rfl, rfl⟩ ?turn ?done
    case turn =>
      rintro ⟨⟨tx, ts⟩, ⟨rw', tr⟩, (_ | ⟨c, r⟩)⟩ u8 h8 tk8 ⟨htx, hri', htk, hdr⟩ F8 N8
      · clear lF' lN'
        dsimp only [kstB] at F8
        dsimp only at htx htk hdr
        subst htx
        k_fold
        k_with "callref" => (refine' tellsN_use (c := cHdn) (d := ([] : List Nat)) ?k1 ?k2 ?k3 ?k4 ?k5 ?kK ?kR (Chdn _) ?ko ?kd ?ku ?_; (case k1 => k_asm); (case k2 => k_asm); (case k3 => k_asm); (case k4 => k_asm); (case k5 => k_asm); (case kK => first | exact rfl | assumption); (case kR => exact ⟨_, rfl⟩); (case ko => exact (by decide : ([] : List Nat) ∈ stks)); (case kd => ktr_room); (case ku => ktr_units); intro r9 tl9 h9' tk9' F9' N9' hl9 ht9 ho9; (replace ht9 : tl9 = [] := ht9); subst ht9; clear hl9; rw [List.append_nil] at N9'; subst ho9; (try dsimp only))
        k_steps
        k_with_none
        exact wdone ((enc [], ts), (rw', tr), []) (by k_asm) (by k_asm) ⟨by dsimp only; rw [← hdr]; rfl, by dsimp only; rw [← htk]; simp⟩
      · clear lF' lN'
        dsimp only [kstB] at F8
        dsimp only at htx htk hdr hri'
        subst htx
        have hstk : c :: r ∈ stks := stks_of hri'
        have hcl : (enc (c :: r)).length ≤ 20 := by have := stk_len _ hstk; omega
        have hrl' : rw'.length ≤ 7 := by
          have e1 := congrArg List.length htk
          have e2 := congrArg List.length (List.takeWhile_append_dropWhile (p := (· < y)) (l := st))
          simp only [List.length_append] at e1 e2
          omega
        try k_fold
        k_with "callref" => first
          | (refine' tellsN_use (c := cUnm) (d := (enc (c :: r), (enc r).length, (enc (c :: r)).length)) ?k1 ?k2 ?k3 ?k4 ?k5 ?kK ?kR (Cunm _) ?ko ?kd ?ku ?_; (case k1 => k_asm); (case k2 => k_asm); (case k3 => k_asm); (case k4 => k_asm); (case k5 => k_asm); (case kK => first | exact rfl | assumption); (case kR => exact ⟨_, _, _, _, _, _, _, rfl, .head _, .tail _ (.head _)⟩); (case ko => exact ⟨hcl, by dsimp only; rw [enc_len, enc_len, List.length_cons]; omega, Nat.le_refl _⟩); (case kd => ktr_room); (case ku => ktr_units); intro r9 tl9 h9' tk9' F9' N9' hl9 ht9 ho9; (replace ht9 : tl9 = [] := ht9); subst ht9; clear hl9; rw [List.append_nil] at N9'; (obtain ⟨t9, e9⟩ := ho9; replace e9 : r9 = .str (S (enc r)) t9 := e9.trans (by show Value.str (S ((enc (c :: r)).take (enc r).length ++ (enc (c :: r)).drop (enc (c :: r)).length)) t9 = _; rw [unm_top]); subst e9); (try dsimp only))
          | (refine' tellsN_use (c := cStr) (d := (c, r)) ?k1 ?k2 ?k3 ?k4 ?k5 ?kK ?kR (Cstr _) ?ko ?kd ?ku ?_; (case k1 => k_asm); (case k2 => k_asm); (case k3 => k_asm); (case k4 => k_asm); (case k5 => k_asm); (case kK => first | exact rfl | assumption); (case kR => exact ⟨_, rfl⟩); (case ko => exact hstk); (case kd => ktr_room); (case ku => ktr_units); intro r9 tl9 h9' tk9' F9' N9' hl9 ht9 ho9; (replace ht9 : tl9 = [] := ht9); subst ht9; clear hl9; rw [List.append_nil] at N9'; (obtain ⟨t9, e9⟩ := ho9; subst e9); (try dsimp only))
          | (refine' tellsN_use (c := cHdn) (d := (c :: r)) ?k1 ?k2 ?k3 ?k4 ?k5 ?kK ?kR (Chdn _) ?ko ?kd ?ku ?_; (case k1 => k_asm); (case k2 => k_asm); (case k3 => k_asm); (case k4 => k_asm); (case k5 => k_asm); (case kK => first | exact rfl | assumption); (case kR => exact ⟨_, rfl⟩); (case ko => exact hstk); (case kd => ktr_room); (case ku => ktr_units); intro r9 tl9 h9' tk9' F9' N9' hl9 ht9 ho9; (replace ht9 : tl9 = [] := ht9); subst ht9; clear hl9; rw [List.append_nil] at N9'; subst ho9; (try dsimp only))
        k_with "methref" => first
          | ((rename Fr _ _ _ _ => F'); (rename News _ _ _ _ => N'); refine meth_group (N' _ (.head _)).1 rfl rfl ?_)
          | refine k_meth48 (by k_asm) (by k_asm) ?_
        k_with "group" => ((rename Fr _ _ _ _ => F'); (rename News _ _ _ _ => N'); refine k_group (N' _ (.head _)).1 (N' _ (.tail _ (.head _))).1 (by omega) htok ?_; intro t6' k6')
        k_with "search" => ((rename Fr _ _ _ _ => F'); (rename News _ _ _ _ => N'); refine k_ipv4_some hstk F' N' (by k_asm) ?_; intro a2 b2 h2 li2 hab2 hn2 F2 N2)
        k_steps
        k_with_none
        · (rename (c :: r).isEmpty = true => hb)
          exact Bool.noConfusion hb
        · (rename c < y => hlt)
          have ht : decide (c < y) = true := decide_eq_true hlt
          rw [List.takeWhile_cons, ht] at htk
          rw [List.dropWhile_cons, ht] at hdr
          exact wend ((enc r, _), (rw' ++ [c], _), r) (by k_asm) (by k_asm) (by kst_inAny) (by kst_all) (by ksw_same) ⟨rfl, rise_tail hri', by rw [← htk]; simp, hdr⟩ (by dsimp only [List.length_cons]; omega)
        · (rename ¬ c < y => hlt)
          have ht : decide (c < y) = false := decide_eq_false hlt
          rw [List.takeWhile_cons, ht] at htk
          rw [List.dropWhile_cons, ht] at hdr
          exact wdone ((enc (c :: r), ts), (rw', tr), []) (by k_asm) (by k_asm) ⟨by dsimp only; rw [← hdr]; rfl, by dsimp only; rw [← htk]; simp⟩
    case done =>
      rintro ⟨⟨tx, ts⟩, ⟨rw', tr⟩, st'⟩ u8 h8 tk8 ⟨htx, hrw⟩ F8 N8
      clear lF' lN'
      dsimp only [kstB] at F8
      dsimp only at htx hrw N8
      subst htx hrw
      have hE : (enc (st.dropWhile (· < y))).length ≤ 20 := by
        have e2 := congrArg List.length (List.takeWhile_append_dropWhile (p := (· < y)) (l := st))
        simp only [List.length_append] at e2
        rw [enc_len]; omega
      try k_fold
      k_with "methref" => ((rename Fr _ _ _ _ => F'); (rename News _ _ _ _ => N'); refine meth_group (N' _ (.head _)).1 rfl rfl ?_)
      k_with "group" => ((rename Fr _ _ _ _ => F'); (rename News _ _ _ _ => N'); refine k_group (N' _ (.head _)).1 (N' _ (.tail _ (.head _))).1 (by omega) htok ?_; intro t6' k6')
      k_with "append" => ((rename Fr _ _ _ _ => F'); (rename News _ _ _ _ => N'); refine k_append (news ++ own9) F' N' (.tail _ (.tail _ (.head _))) (fun p hp => .tail _ (.tail _ (.tail _ hp))) (fun p hp => by
        rcases List.mem_append.mp hp with hp | hp
        · exact Nat.ne_of_lt (hD0 p hp)
        · exact hoff p hp D0 (.head _)) (by omega) ?_; intro n6' h6' F6' N6')
      k_steps
      k_with_none
      have hstep : rst o (k + 1) = (y :: st.dropWhile (· < y), row ++ st.takeWhile (· < y), sn ++ [y :: st.dropWhile (· < y)]) := by
        show rstep o k (rst o k) = _
        rw [hst]; unfold rstep; dsimp only; rw [← hy]
      exact ks_end ((us ++ [_], n6'), (lineK o (k + 1), _), (enc (st.dropWhile (· < y)) ++ [46] ++ [y], _), (row ++ st.takeWhile (· < y), tr), y :: st.dropWhile (· < y), sn ++ [y :: st.dropWhile (· < y)]) (by k_asm) (by k_asm)
        (by exact List.forall_mem_cons.mpr ⟨.head _, fun p hp => .tail _ (List.mem_append.mpr (.inl hp))⟩) (by exact fun p hp => .tail _ (List.mem_append.mpr (.inr hp))) rfl (by kst_all) (by kst_same)
        ⟨rfl, enc_cons _ _, hstep, by dsimp only; rw [List.map_append, enc_cons]; exact hsa.append' (.cons _ _ .nil), by simp [hul]⟩
end
section
/-- what the distance is to be, told by the two stacks -/
def due (a b : List Nat) : Int := 4 * (max a.length b.length : Nat) - 2 * (min a.length b.length : Nat) - 2 * (lcs a b : Nat)
/-- two stacks, the second a later one -/
def later (a b : List Nat) : Bool :=
  let x := a.take (a.length - lcs a b)
  let y := b.take (b.length - lcs a b)
  x.all (fun d => ! y.contains d) && decide (0 < y.length) && x.all fun d => decide (d < y.getD (y.length - 1) 0)
def levOk (a b : List Nat) : Bool := ! later a b || (lev (enc a) (enc b) (due a b) == due a b)
theorem lev1 : (stks.take 16).all (fun a => stks.all fun b => levOk a b) = true := by decide +kernel
theorem lev2 : ((stks.drop 16).take 16).all (fun a => stks.all fun b => levOk a b) = true := by decide +kernel
theorem lev3 : ((stks.drop 32).take 16).all (fun a => stks.all fun b => levOk a b) = true := by decide +kernel
theorem lev4 : (stks.drop 48).all (fun a => stks.all fun b => levOk a b) = true := by decide +kernel
theorem lev_all : ∀ a ∈ stks, ∀ b ∈ stks, later a b = true → lev (enc a) (enc b) (due a b) = due a b := by
  intro a ha b hb hl
  have h : levOk a b = true := by
    have e : stks = stks.take 16 ++ ((stks.drop 16).take 16 ++ ((stks.drop 32).take 16 ++ stks.drop 48)) := by decide +kernel
    rw [e] at ha
    rcases List.mem_append.mp ha with h1 | h1
    · exact List.all_eq_true.mp (List.all_eq_true.mp lev1 a h1) b hb
    · rcases List.mem_append.mp h1 with h1 | h1
      · exact List.all_eq_true.mp (List.all_eq_true.mp lev2 a h1) b hb
      · rcases List.mem_append.mp h1 with h1 | h1
        · exact List.all_eq_true.mp (List.all_eq_true.mp lev3 a h1) b hb
        · exact List.all_eq_true.mp (List.all_eq_true.mp lev4 a h1) b hb
  unfold levOk at h
  rw [hl] at h
  simpa using h
theorem dropWhile_gt {t : Nat} : ∀ {st : List Nat}, List.Pairwise (· < ·) st → t ∉ st → List.Pairwise (· < ·) (t :: st.dropWhile (· < t))
  | [], _, _ => by simp
  | a :: r, hp, hm => by
    have hp' := List.pairwise_cons.mp hp
    rw [List.dropWhile_cons]
    by_cases h : a < t
    · rw [if_pos (by simpa using h)]
      exact dropWhile_gt hp'.2 (fun hx => hm (.tail _ hx))
    · rw [if_neg (by simpa using h)]
      have hta : t < a := by
        rcases Nat.lt_or_ge t a with h1 | h1
        · exact h1
        · exact absurd (.head _) (fun hx : a ∈ a :: r => hm (by have : a = t := by omega
                                                                rw [← this]; exact hx))
      refine List.pairwise_cons.mpr ⟨fun x hx => ?_, hp⟩
      rcases List.mem_cons.mp hx with rfl | hx
      · exact hta
      · exact Nat.lt_trans hta (hp'.1 x hx)
theorem riseB_of : ∀ {st : List Nat}, List.Pairwise (· < ·) st → (∀ x ∈ st, x ∈ dg6) → riseB st = true
  | [], _, _ => rfl
  | [a], _, h => List.contains_iff_mem.mpr (h a (.head _))
  | a :: b :: r, hp, h => by
    have hp' := List.pairwise_cons.mp hp
    show (dg6.contains a && decide (a < b) && riseB (b :: r)) = true
    rw [List.contains_iff_mem.mpr (h a (.head _)), decide_eq_true (hp'.1 b (.head _)), riseB_of hp'.2 (fun x hx => h x (.tail _ hx))]
    rfl
theorem rst_rise {o : List Nat} (hn : o.Nodup) : ∀ k, k ≤ o.length → List.Pairwise (· < ·) (rst o k).1 ∧ ∀ x ∈ (rst o k).1, x ∈ o.take k
  | 0, _ => ⟨.nil, by intro x hx; cases hx⟩
  | k + 1, hk => by
    obtain ⟨ih1, ih2⟩ := rst_rise hn k (by omega)
    have hlt : k < o.length := by omega
    have ht : (o ++ [57]).getD k 0 = o[k] := by
      rw [List.getD_eq_getElem?_getD, List.getElem?_append_left hlt, List.getElem?_eq_getElem hlt]; rfl
    have htk : o.take (k + 1) = o.take k ++ [o[k]] := by rw [List.take_add_one, List.getElem?_eq_getElem hlt]; rfl
    have hnt : o[k] ∉ o.take k := by
      have := hn.sublist (List.take_sublist (k + 1) o)
      rw [htk, List.nodup_append] at this
      exact fun hx => this.2.2 _ hx _ (.head _) rfl
    show List.Pairwise (· < ·) ((o ++ [57]).getD k 0 :: (rst o k).1.dropWhile (· < (o ++ [57]).getD k 0)) ∧ ∀ x ∈ (o ++ [57]).getD k 0 :: (rst o k).1.dropWhile (· < (o ++ [57]).getD k 0), x ∈ o.take (k + 1)
    rw [ht]
    refine ⟨dropWhile_gt ih1 (fun hx => hnt (ih2 _ hx)), fun x hx => ?_⟩
    rw [htk]
    rcases List.mem_cons.mp hx with rfl | hx
    · exact List.mem_append.mpr (.inr (.head _))
    · exact List.mem_append.mpr (.inl (ih2 _ ((List.dropWhile_sublist _).subset hx)))
theorem okRun_of {o : List Nat} (h6 : o.length ≤ 6) (h4 : 4 ≤ o.length) (hd : o.all dg6.contains = true) (hn : o.Nodup) : okRun o = true := by
  unfold okRun
  rw [decide_eq_true h6, decide_eq_true h4, hd]
  simp only [Bool.true_and, List.all_eq_true, List.mem_range]
  intro k hk
  obtain ⟨h1, h2⟩ := rst_rise hn k (by omega)
  refine riseB_of h1 fun x hx => ?_
  exact List.contains_iff_mem.mp (List.all_eq_true.mp hd x (List.mem_of_mem_take (h2 x hx)))
theorem tw_all {t : Nat} : ∀ {st : List Nat}, (∀ x ∈ st, x < t) → st.takeWhile (· < t) = st
  | [], _ => rfl
  | a :: r, h => by
    rw [List.takeWhile_cons, if_pos (by simpa using h a (.head _)), tw_all fun x hx => h x (.tail _ hx)]
theorem rst_perm {o : List Nat} : ∀ k, k ≤ o.length → ((rst o k).2.1 ++ (rst o k).1).Perm (o.take k)
  | 0, _ => .nil
  | k + 1, hk => by
    have ih := rst_perm (o := o) k (by omega)
    have hlt : k < o.length := by omega
    have ht : (o ++ [57]).getD k 0 = o[k] := by
      rw [List.getD_eq_getElem?_getD, List.getElem?_append_left hlt, List.getElem?_eq_getElem hlt]; rfl
    have htk : o.take (k + 1) = o.take k ++ [o[k]] := by rw [List.take_add_one, List.getElem?_eq_getElem hlt]; rfl
    show (((rst o k).2.1 ++ (rst o k).1.takeWhile (· < (o ++ [57]).getD k 0)) ++ ((o ++ [57]).getD k 0 :: (rst o k).1.dropWhile (· < (o ++ [57]).getD k 0))).Perm (o.take (k + 1))
    rw [ht, htk]
    refine List.Perm.trans List.perm_middle ?_
    rw [List.append_assoc, List.takeWhile_append_dropWhile]
    exact (ih.cons _).trans (List.perm_append_singleton _ _).symm
theorem run_perm {o : List Nat} (h : ∀ x ∈ o, x < 57) : (runRow o).Perm o := by
  have hp := rst_perm (o := o) o.length (Nat.le_refl _)
  rw [List.take_length] at hp
  have ht : (o ++ [57]).getD o.length 0 = 57 := by
    rw [List.getD_eq_getElem?_getD, List.getElem?_append_right (Nat.le_refl _), Nat.sub_self]; rfl
  show ((rst o o.length).2.1 ++ (rst o o.length).1.takeWhile (· < (o ++ [57]).getD o.length 0)).Perm o
  rw [ht, tw_all fun x hx => h x (hp.mem_iff.mp (List.mem_append.mpr (.inr hx)))]
  exact hp
theorem arr_perm : ∀ (n : Nat) (left r : List Nat), left.length = n → r ∈ arr n left → r.Perm left
  | 0, left, r, hl, hr => by
    have e := List.length_eq_zero_iff.mp hl
    subst e
    rw [List.mem_singleton.mp hr]
  | n + 1, left, r, hl, hr => by
    obtain ⟨i, hi, hr⟩ := List.mem_flatMap.mp hr
    obtain ⟨r', hr', rfl⟩ := List.mem_map.mp hr
    have hi : i < left.length := List.mem_range.mp hi
    have ih := arr_perm n (left.take i ++ left.drop (i + 1)) r' (by simp only [List.length_append, List.length_take, List.length_drop]; omega) hr'
    have e : left.getD i 0 = left[i] := by rw [List.getD_eq_getElem?_getD, List.getElem?_eq_getElem hi]; rfl
    rw [e]
    refine (ih.cons _).trans (List.perm_middle.symm.trans ?_)
    rw [← List.drop_eq_getElem_cons hi, List.take_append_drop]
noncomputable def popR (t : Nat) (st : List Nat) : List Nat → (List Nat → List Nat → List Nat) → List Nat :=
  @List.rec Nat (fun _ => List Nat → (List Nat → List Nat → List Nat) → List Nat) (fun row k => k [] row) (fun a r ih row k => cond (Nat.blt a t) (ih (row ++ [a]) k) (k (a :: r) row)) st
noncomputable def runR (l : List Nat) : List Nat → List Nat → List Nat :=
  @List.rec Nat (fun _ => List Nat → List Nat → List Nat) (fun _ row => row) (fun t _ ih st row => popR t st row (fun st' row' => ih (t :: st') row')) l
theorem popR_eq (t : Nat) (k : List Nat → List Nat → List Nat) : ∀ st row, popR t st row k = k (st.dropWhile (· < t)) (row ++ st.takeWhile (· < t))
  | [], row => by rw [List.takeWhile_nil, List.append_nil]; rfl
  | a :: r, row => by
    have e : popR t (a :: r) row k = cond (Nat.blt a t) (popR t r (row ++ [a]) k) (k (a :: r) row) := rfl
    rw [e, List.takeWhile_cons, List.dropWhile_cons]
    by_cases h : a < t
    · have hb : Nat.blt a t = true := by rw [Nat.blt_eq]; exact h
      rw [hb, if_pos (by simpa using h), if_pos (by simpa using h)]
      show popR t r (row ++ [a]) k = _
      rw [popR_eq t k r (row ++ [a]), List.append_assoc]; rfl
    · have hb : Nat.blt a t = false := by
        rw [Bool.eq_false_iff]; intro hh; rw [Nat.blt_eq] at hh; exact h hh
      rw [hb, if_neg (by simpa using h), if_neg (by simpa using h), List.append_nil]; rfl
theorem runR_go (o : List Nat) : ∀ d k, k + d = o.length + 1 → runR ((o ++ [57]).drop k) (rst o k).1 (rst o k).2.1 = runRow o
  | 0, k, h => by
    have hk : k = o.length + 1 := by omega
    subst hk
    rw [List.drop_eq_nil_of_le (by simp)]; rfl
  | d + 1, k, h => by
    have hlt : k < (o ++ [57]).length := by simp; omega
    have e : (o ++ [57]).drop k = (o ++ [57]).getD k 0 :: (o ++ [57]).drop (k + 1) := by
      rw [List.drop_eq_getElem_cons hlt, List.getD_eq_getElem?_getD, List.getElem?_eq_getElem hlt]; rfl
    rw [e]
    show popR ((o ++ [57]).getD k 0) (rst o k).1 (rst o k).2.1 (fun st' row' => runR ((o ++ [57]).drop (k + 1)) ((o ++ [57]).getD k 0 :: st') row') = _
    rw [popR_eq]
    exact runR_go o d (k + 1) (by omega)
theorem runR_eq (o : List Nat) : runR (o ++ [57]) [] [] = runRow o := runR_go o (o.length + 1) 0 (by omega)
noncomputable def popS (t : Nat) (st : List Nat) : List Nat := @List.rec Nat (fun _ => List Nat) [] (fun a r ih => cond (Nat.blt a t) ih (a :: r)) st
noncomputable def seenR (l : List Nat) : List Nat → List (List Nat) := @List.rec Nat (fun _ => List Nat → List (List Nat)) (fun _ => []) (fun t _ ih st => (t :: popS t st) :: ih (t :: popS t st)) l
theorem popS_eq (t : Nat) : ∀ st, popS t st = st.dropWhile (· < t)
  | [] => rfl
  | a :: r => by
    have e : popS t (a :: r) = cond (Nat.blt a t) (popS t r) (a :: r) := rfl
    rw [e, List.dropWhile_cons]
    by_cases h : a < t
    · have hb : Nat.blt a t = true := by rw [Nat.blt_eq]; exact h
      rw [hb, if_pos (by simpa using h)]
      exact popS_eq t r
    · have hb : Nat.blt a t = false := by
        rw [Bool.eq_false_iff]; intro hh; rw [Nat.blt_eq] at hh; exact h hh
      rw [hb, if_neg (by simpa using h)]; rfl
theorem rst_seen (o : List Nat) : ∀ k, (rst o k).2.2 = (List.range k).map fun i => (rst o (i + 1)).1
  | 0 => rfl
  | k + 1 => by
    have ih := rst_seen o k
    rw [List.range_succ, List.map_append, ← ih]
    rfl
theorem seen_at (o : List Nat) {k : Nat} (hk : k < o.length + 1) : (runSeen o).getD k [] = (rst o (k + 1)).1 := by
  unfold runSeen
  rw [rst_seen, List.getD_eq_getElem?_getD, List.getElem?_map, List.getElem?_range hk]
  rfl
theorem stk_alpha : ∀ st ∈ stks, ∀ x ∈ enc st, x ∈ alpha := by decide +kernel
theorem stk_short : ∀ st ∈ stks, st.length ≤ 6 := by decide +kernel
theorem seenR_go (o : List Nat) : ∀ d k, k + d = o.length + 1 → seenR ((o ++ [57]).drop k) (rst o k).1 = (List.range d).map fun i => (rst o (k + i + 1)).1
  | 0, k, h => by
    have hk : k = o.length + 1 := by omega
    subst hk
    rw [List.drop_eq_nil_of_le (by simp)]; rfl
  | d + 1, k, h => by
    have hlt : k < (o ++ [57]).length := by simp; omega
    have e : (o ++ [57]).drop k = (o ++ [57]).getD k 0 :: (o ++ [57]).drop (k + 1) := by
      rw [List.drop_eq_getElem_cons hlt, List.getD_eq_getElem?_getD, List.getElem?_eq_getElem hlt]; rfl
    rw [e]
    show ((o ++ [57]).getD k 0 :: popS ((o ++ [57]).getD k 0) (rst o k).1) :: seenR ((o ++ [57]).drop (k + 1)) ((o ++ [57]).getD k 0 :: popS ((o ++ [57]).getD k 0) (rst o k).1) = _
    rw [popS_eq]
    show (rst o (k + 1)).1 :: seenR ((o ++ [57]).drop (k + 1)) (rst o (k + 1)).1 = _
    rw [seenR_go o d (k + 1) (by omega), List.range_succ_eq_map, List.map_cons, List.map_map]
    congr 1
    refine List.map_congr_left fun i _ => ?_
    show (rst o (k + 1 + i + 1)).1 = (rst o (k + (i + 1) + 1)).1
    rw [show k + 1 + i + 1 = k + (i + 1) + 1 by omega]
theorem seenR_eq (o : List Nat) : seenR (o ++ [57]) [] = runSeen o := by
  have h := seenR_go o (o.length + 1) 0 (by omega)
  unfold runSeen
  rw [rst_seen]
  refine Eq.trans h (List.map_congr_left fun i _ => ?_)
  rw [Nat.zero_add]
def gapsB (o : List Nat) (ss : List (List Nat)) : Bool :=
  (List.range o.length).all fun l => cnt o l l == (ss.getD l []).length && (List.range l).all fun e => later (ss.getD e []) (ss.getD l []) && cnt o e l == lcs (ss.getD e []) (ss.getD l [])
def runStep (sg : List Nat) (c : List Nat × Nat) : List Nat × Nat := if c.1 = sg then c else (runRow c.1, c.2 + 1)
def iterS (sg : List Nat) : Nat → List Nat × Nat → List Nat × Nat
  | 0, c => c
  | n + 1, c => runStep sg (iterS sg n c)
def start (sg o : List Nat) : List Nat × Nat := if o = sg then (o, 0) else (runRow o, 1)
/-- the same, as the check reckons it -/
noncomputable def stepR (sg : List Nat) (c : List Nat × Nat) : List Nat × Nat := if c.1 = sg then c else (runR (c.1 ++ [57]) [] [], c.2 + 1)
noncomputable def iterR (sg : List Nat) : Nat → List Nat × Nat → List Nat × Nat
  | 0, c => c
  | n + 1, c => stepR sg (iterR sg n c)
theorem stepR_eq (sg : List Nat) (c : List Nat × Nat) : stepR sg c = runStep sg c := by unfold stepR runStep; rw [runR_eq]
theorem iterR_eq (sg : List Nat) (c : List Nat × Nat) : ∀ n, iterR sg n c = iterS sg n c
  | 0 => rfl
  | n + 1 => by
    show stepR sg (iterR sg n c) = runStep sg (iterS sg n c)
    rw [stepR_eq, iterR_eq sg c n]
theorem start_eq (sg o : List Nat) : stepR sg (o, 0) = start sg o := by
  unfold stepR start
  dsimp only
  rw [runR_eq]
def finB (sg o : List Nat) (c : List Nat × Nat) : Bool :=
  decide (c.1 = sg) && (decide (c.2 = sg.length - 1) == decide (o.drop (sg.length - 2) = [sg.getD (sg.length - 1) 0, sg.getD 0 0]))
def rowB (sg o row : List Nat) : Bool := decide (ruleF 6 o = row) && pairsB o row sg
noncomputable def lawOk (sg o : List Nat) : Bool :=
  rowB sg o (runR (o ++ [57]) [] []) && gapsB o (seenR (o ++ [57]) []) && finB sg o (iterR sg (sg.length - 2) (stepR sg (o, 0)))
theorem law4 : (arr 4 (dg6.take 4)).all (lawOk (dg6.take 4)) = true := by decide +kernel
theorem law5 : (arr 5 (dg6.take 5)).all (lawOk (dg6.take 5)) = true := by decide +kernel
theorem law60 : (arr 5 [50, 51, 52, 53, 54]).all (fun r => lawOk dg6 (49 :: r)) = true := by decide +kernel
theorem law61 : (arr 5 [49, 51, 52, 53, 54]).all (fun r => lawOk dg6 (50 :: r)) = true := by decide +kernel
theorem law62 : (arr 5 [49, 50, 52, 53, 54]).all (fun r => lawOk dg6 (51 :: r)) = true := by decide +kernel
theorem law63 : (arr 5 [49, 50, 51, 53, 54]).all (fun r => lawOk dg6 (52 :: r)) = true := by decide +kernel
theorem law64 : (arr 5 [49, 50, 51, 52, 54]).all (fun r => lawOk dg6 (53 :: r)) = true := by decide +kernel
theorem law65 : (arr 5 [49, 50, 51, 52, 53]).all (fun r => lawOk dg6 (54 :: r)) = true := by decide +kernel
theorem law6 {o : List Nat} (h : o ∈ arr 6 dg6) : lawOk dg6 o = true := by
  obtain ⟨i, hi, h⟩ := List.mem_flatMap.mp h
  obtain ⟨r, hr, rfl⟩ := List.mem_map.mp h
  have hi : i < 6 := List.mem_range.mp hi
  rcases (show i = 0 ∨ i = 1 ∨ i = 2 ∨ i = 3 ∨ i = 4 ∨ i = 5 by omega) with rfl | rfl | rfl | rfl | rfl | rfl
  · exact List.all_eq_true.mp law60 r hr
  · exact List.all_eq_true.mp law61 r hr
  · exact List.all_eq_true.mp law62 r hr
  · exact List.all_eq_true.mp law63 r hr
  · exact List.all_eq_true.mp law64 r hr
  · exact List.all_eq_true.mp law65 r hr
theorem law_ok {n : Nat} {o : List Nat} (h4 : 4 ≤ n) (h6 : n ≤ 6) (h : o ∈ arr (dg6.take n).length (dg6.take n)) : lawOk (dg6.take n) o = true := by
  rcases (show n = 4 ∨ n = 5 ∨ n = 6 by omega) with rfl | rfl | rfl
  · exact List.all_eq_true.mp law4 o h
  · exact List.all_eq_true.mp law5 o h
  · exact law6 h
structure Good (sg o : List Nat) : Prop where
  run : okRun o = true
  nd : o.Nodup
  len : o.length = sg.length
  rule : ruleF 6 o = runRow o
  rnd : (runRow o).Nodup
  rin : ∀ x ∈ sg, x ∈ runRow o
  prs : pairsB o (runRow o) sg = true
  slen : (runSeen o).length = o.length + 1
  gap : ∀ k g, 1 ≤ g → k + g < sg.length → (runSeen o).getD k [] ∈ stks ∧ (runSeen o).getD (k + g) [] ∈ stks ∧ -1000 ≤ apt o k (k + g) ∧ apt o k (k + g) ≤ 1000 ∧
    lev (enc ((runSeen o).getD k [])) (enc ((runSeen o).getD (k + g) [])) (apt o k (k + g)) = apt o k (k + g)
  steps : ∀ k, k < sg.length - 2 → okRun (iterS sg k (start sg o)).1 = true
  fin1 : (iterS sg (sg.length - 2) (start sg o)).1 = sg
  fin2 : decide ((iterS sg (sg.length - 2) (start sg o)).2 = sg.length - 1) = decide (o.drop (sg.length - 2) = [sg.getD (sg.length - 1) 0, sg.getD 0 0])
theorem iter_perm {sg o : List Nat} (hd : ∀ x ∈ o, x < 57) : ∀ k, (iterS sg k (start sg o)).1.Perm o
  | 0 => by
    show (start sg o).1.Perm o
    unfold start
    split
    · exact List.Perm.refl _
    · exact run_perm hd
  | k + 1 => by
    have ih := iter_perm (sg := sg) hd k
    show (runStep sg (iterS sg k (start sg o))).1.Perm o
    unfold runStep
    split
    · exact ih
    · exact (run_perm fun x hx => hd x (ih.mem_iff.mp hx)).trans ih
theorem good {n : Nat} {o : List Nat} (h4 : 4 ≤ n) (h6 : n ≤ 6) (h : o ∈ arr (dg6.take n).length (dg6.take n)) : Good (dg6.take n) o := by
  have hl := law_ok h4 h6 h
  have hp := arr_perm _ _ _ rfl h
  have hsl : (dg6.take n).length = n := by rw [List.length_take]; show min n 6 = n; omega
  have hol : o.length = n := hp.length_eq.trans hsl
  have hnd : o.Nodup := hp.nodup_iff.mpr ((by decide : dg6.Nodup).sublist (List.take_sublist _ _))
  have hdg : ∀ x ∈ o, x ∈ dg6 := fun x hx => List.mem_of_mem_take (hp.mem_iff.mp hx)
  have h57 : ∀ x ∈ o, x < 57 := fun x hx => (by decide : ∀ x ∈ dg6, x < 57) x (hdg x hx)
  have hrun : ∀ p : List Nat, p.Perm o → okRun p = true := fun p hpo =>
    okRun_of (by rw [hpo.length_eq]; omega) (by rw [hpo.length_eq]; omega) (List.all_eq_true.mpr fun x hx => List.contains_iff_mem.mpr (hdg x (hpo.mem_iff.mp hx))) (hpo.nodup_iff.mpr hnd)
  have h1 := hrun o (List.Perm.refl _)
  have hrp := run_perm h57
  unfold lawOk rowB finB at hl
  rw [runR_eq, seenR_eq, start_eq, iterR_eq] at hl
  simp only [Bool.and_eq_true, decide_eq_true_eq, beq_iff_eq] at hl
  obtain ⟨⟨⟨h4', h7⟩, h8⟩, f2, f3⟩ := hl
  have hs : ∀ k, k < o.length → (runSeen o).getD k [] ∈ stks := fun k hk => by
    rw [seen_at o (by omega)]
    refine stks_of ?_
    have := h1
    unfold okRun at this
    simp only [Bool.and_eq_true, List.all_eq_true, List.mem_range] at this
    exact this.2 (k + 1) (by omega)
  refine ⟨h1, hnd, hp.length_eq, h4', hrp.nodup_iff.mpr hnd, fun x hx => hrp.mem_iff.mpr (hp.mem_iff.mpr hx), h7, ?_, fun k g hg hkg => ?_, fun k _ => hrun _ (iter_perm h57 k), f2, f3⟩
  · unfold runSeen; rw [rst_seen]; simp
  · have hk := hs k (by omega)
    have hkg' := hs (k + g) (by omega)
    unfold gapsB at h8
    simp only [Bool.and_eq_true, beq_iff_eq, List.all_eq_true, List.mem_range] at h8
    have g1 := (h8 k (by omega)).1
    have g2 := (h8 (k + g) (by omega)).1
    obtain ⟨g3, g4⟩ := (h8 (k + g) (by omega)).2 k (by omega)
    have e : apt o k (k + g) = due ((runSeen o).getD k []) ((runSeen o).getD (k + g) []) := by
      unfold apt due; rw [g1, g2, g4]
    have s1 := stk_short _ hk
    have s2 := stk_short _ hkg'
    have s3 := (lcs_le ((runSeen o).getD k []) ((runSeen o).getD (k + g) [])).1
    refine ⟨hk, hkg', ?_, ?_, ?_⟩
    · rw [e]; unfold due; omega
    · rw [e]; unfold due; omega
    · rw [e]; exact lev_all _ hk _ hkg' g3
end
section
local macro_rules | `(tactic| walk_at "call ref") => `(tactic| with_reducible refine hold_of ?_)
local macro_rules | `(tactic| walk_at "binaryOp Mod int int") => `(tactic| k_extra "mod")
local macro_rules | `(tactic| walk_at "compareOp NotEq str str") => `(tactic| k_extra "ne")
local macro_rules | `(tactic| walk_at "compareOp Eq str str") => `(tactic| k_extra "eq")
local macro_rules | `(tactic| walk_at "subscriptTail Name Name ref int") => `(tactic| ((with_reducible show wpAny _ _ (subscriptTail _ _ (Value.ref _) (Value.int _ _)) _ _ _); k_extra "ritem"))
local macro_rules | `(tactic| walk_at "subscriptTail Name BinOp ref int") => `(tactic| ((with_reducible show wpAny _ _ (subscriptTail _ _ (Value.ref _) (Value.int _ _)) _ _ _); k_extra "ritem"))
local macro_rules | `(tactic| walk_at "subscriptTail Name UnaryOp str int") => `(tactic| ((with_reducible show wpAny _ _ (subscriptTail _ _ (Value.str (S _) _) (Value.int _ _)) _ _ _); refine k_itemn (q := 1) rfl (by omega) (by omega) (by omega) ?_))
local macro_rules | `(tactic| walk_at "subscriptTail Name Constant str int") => `(tactic| ((with_reducible show wpAny _ _ (subscriptTail _ _ (Value.str (S _) _) (Value.int _ _)) _ _ _); refine k_item (n := 0) rfl (by omega) (by omega) ?_))
section
variable {prog : Program} {w : World} {A : Around} {E : Value → Shared → Prop} {s : Shared} {Q : Value → Shared → Prop} {h₀ : Heap} {L : Addr} {m : Str → Option Value} {news : List (Addr × Obj)} {value slice : Expr}
theorem dg6_len {n : Nat} (h4 : 4 ≤ n) (h6 : n ≤ 6) : (dg6.take n).length = n := by
  rw [List.length_take]; show min n 6 = n; omega
theorem sig_slice (q : Nat) : ∃ n, 4 ≤ n ∧ n ≤ 6 ∧ Txt.slice (Str.ofString "123456") none (some (4 + if ((q : Nat) : Int).fdiv 3 < 2 then ((q : Nat) : Int).fdiv 3 else 2)) = S (dg6.take n) := by
  have e : (Str.ofString "123456") = S dg6 := by kernel_rfl
  have ef : ((q : Nat) : Int).fdiv 3 = ((q / 3 : Nat) : Int) := by rw [Int.fdiv_eq_ediv_of_nonneg _ (by omega)]; omega
  rw [ef, e]
  by_cases h : q / 3 < 2
  · refine ⟨4 + q / 3, by omega, by omega, ?_⟩
    rw [if_pos (by omega), show (4 : Int) + ((q / 3 : Nat) : Int) = ((4 + q / 3 : Nat) : Int) by omega]
    exact slc_to dg6 (by show _ ≤ 6; omega)
  · refine ⟨6, by omega, by omega, ?_⟩
    rw [if_neg (by omega)]
    exact slc_to dg6 (j := 6) (by decide)
theorem cutF {σ : Type} {env : Env} {Q : Flow → Shared → Prop} {st : Stmt} {rest : List Stmt} {m₀ : Str → Option Value} (_F : Fr h₀ L s.heap m₀) (Led : σ → List (Addr × Obj)) (ps : σ → List (Str × Value)) (R : σ → Prop)
    (first : wpAny (model prog w) A (exec st env) (Cut h₀ L s Led ps m₀ R Q) E s)
    (next : ∀ (c : σ) h tk, R c → Fr h₀ L h (kstB m₀ (ps c)) → News h₀ L h (Led c) → wpAny (model prog w) A (execs rest env) Q E { s with heap := h, toks := tk }) :
    wpAny (model prog w) A (execs (st :: rest) env) Q E s := cut Led ps m₀ R first next
theorem slc_negLo (l : List Nat) {q : Nat} (h0 : 0 < q) (hq : q ≤ l.length) : Txt.slice (S l) (some (-(q : Int))) none = S (l.drop (l.length - q)) := by
  have h := StrLaws.sliceText_neg_lo (S l) none (i := -(q : Int)) (by omega) (by rw [S_len]; omega)
  have e : -(q : Int) + (S l).length = ((l.length - q : Nat) : Int) := by rw [S_len]; omega
  rw [e] at h
  exact Eq.trans h (slc_from l (Nat.sub_le _ _))
theorem k_slM {l : List Nat} {t : Tok} {i : Int} {ui : Tok} {q : Nat} (hi : i = -(q : Int)) (h0 : 0 < q) (hn : q ≤ l.length) (hl : l.length ≤ 1000000) (F : Fr h₀ L s.heap m) (N : News h₀ L s.heap news)
    (h : ∀ h' t' k, Fr h₀ L h' m → News h₀ L h' news → Q (.str (S (l.drop (l.length - q))) t') { s with heap := h', toks := k })
    (hs : subscripted slice false (.str (S l) t) (.ref s.heap.objs.size) = operate [.ref s.heap.objs.size, .str (S l) t] (getItem (.str (S l) t) (.ref s.heap.objs.size)) := by with_unfolding_all rfl)
    (ht : ∀ r, letTemporaryGo value (.str (S l) t) r = pure () := by intro _; with_unfolding_all rfl) :
    wpAny (model prog w) A (subscriptTail value slice (.str (S l) t) (.ref s.heap.objs.size)) Q E { s with heap := s.heap.push { cls := .type "slice", data := .fields #[.int i ui, .none, .none] } } := by
  subst hi
  refine slice_strN_sn F N (fun h' t' k F' N' => ?_) hs ht (sl_of hl)
  rw [slc_negLo l h0 hn]; exact h h' t' k F' N'
theorem k_neF {a b : List Nat} {t u : Tok} (e : a = b) (h : Q (.bool false) s) : wpAny (model prog w) A (compareOp .NotEq (.str (S a) t) (.str (S b) u)) Q E s := by
  refine k_ne ?_
  rw [decide_eq_true e]; exact h
theorem k_neD {a b : List Nat} {t u : Tok} (h1 : a = b → Q (.bool false) s) (h2 : a ≠ b → Q (.bool true) s) : wpAny (model prog w) A (compareOp .NotEq (.str (S a) t) (.str (S b) u)) Q E s := by
  refine k_ne ?_
  by_cases e : a = b
  · rw [decide_eq_true e]; exact h1 e
  · rw [decide_eq_false e]; exact h2 e
theorem k_eqT {a b : List Nat} {t u : Tok} (e : a = b) (h : Q (.bool true) s) : wpAny (model prog w) A (compareOp .Eq (.str (S a) t) (.str (S b) u)) Q E s := by
  refine k_eq ?_
  rw [decide_eq_true e]; exact h
theorem k_seen {D : Addr} {vs : List Value} {cap k : Nat} {i : Int} {u : Tok} {ss : List (List Nat)} (N : News h₀ L s.heap news) (hm : (D, listOf vs.toArray cap) ∈ news) (hv : StrsAre vs (ss.map fun st => S (enc st))) (hi : i = (k : Int)) (hk : k < ss.length) (hl : ss.length ≤ 1000)
    (h : ∀ t', Q (.str (S (enc (ss.getD k []))) t') s)
    (hs : subscripted slice false (.ref D) (.int i u) = operate [.ref D, .int i u] (getItem (.ref D) (.int i u)) := by with_unfolding_all rfl) :
    wpAny (model prog w) A (subscriptTail value slice (.ref D) (.int i u)) Q E s := by
  subst hi
  refine KTb.item_list ⟨_, (N _ hm).1, rfl, cap, rfl⟩ hv (by omega) (by rw [List.length_map]; omega) (by omega) (fun t' _ => ?_) hs
  have e : (ss.map fun st => S (enc st)).getD ((k : Int).toNat) Str.empty = S (enc (ss.getD k [])) := by
    rw [Int.toNat_natCast, List.getD_eq_getElem?_getD, List.getD_eq_getElem?_getD, List.getElem?_map, List.getElem?_eq_getElem hk]; rfl
  rw [e]; exact h t'
end
local macro_rules | `(tactic| walk_at "subscriptTail Name Slice str ref") => `(tactic| ((with_reducible show wpAny _ _ (subscriptTail _ (Expr.Slice (some (Expr.UnaryOp _ _ _)) none none _) (Value.str (S _) _) (Value.ref _)) _ _ _); (with_reducible rename Fr _ _ _ _ => F'); (with_reducible rename News _ _ _ _ => N'); refine k_slM (s := ⟨_, _, _, _, _⟩) (q := 2) rfl (by omega) (by omega) (by omega) F' N' ?_; intro _ _ _ _ _))
theorem lawT : PySem.Challenge.rw_xg0050_01.Holds := by
  refine Mine.hd ?_
  have Crule : ∀ {w : World} {mean mg mb}, TN w mean mg mb 104 cRule := Mine.rule
  have Cprs : ∀ {w : World} {mean mg mb}, TN w mean mg mb 111 cPrs := Mine.prs
  have Capt : ∀ {w : World} {mean mg mb}, TN w mean mg mb 116 cApt := Mine.aptm
  have Clev : ∀ {w : World} {mean mg mb}, TN w mean mg mb 83 cLev := Mine.levm
  delta TN PR VW LO at Crule Cprs Capt Clev
  k_go0
  all_goals try k_fold
  (rename IntsAre _ _ => hI)
  (rename Heap.IsList _ _ _ => hL)
  (rename ¬ ((63 : Nat) : Int) < _ => h63)
  (rename Fr _ _ _ _ => lF')
  (rename News _ _ _ _ => lN')
  refine cutC lF' lN' (σ := Nat × Tok) (fun c => [(Str.ofString "signs", .str (S (dg6.take c.1)) c.2)]) (fun c => 4 ≤ c.1 ∧ c.1 ≤ 6) ?first ?next
  case first =>
    obtain ⟨n6, h46, h66, hsl⟩ := sig_slice (List.length _)
    k_steps
    (rename Fr _ _ _ _ => F')
    rw [hsl] at F'
    exact cut_end (n6, _) F' (by k_asm) (by kst_anyIn) (by kst_all) (by intro z h2; simp only [List.forall_mem_cons, List.not_mem_nil, false_implies, implies_true, and_true, ne_eq] at h2; simp [h2]) ⟨h46, h66⟩
  case next =>
    rintro ⟨n, tn⟩ h8 tk8 ⟨h4, h6⟩ F8 N8
    clear lF' lN'
    dsimp only [kstB] at F8
    dsimp only at h4 h6
    refine cutC F8 N8 (σ := List Nat × Tok) (fun c => [(Str.ofString "order", .str (S c.1) c.2)]) (fun c => c.1 ∈ arr (dg6.take n).length (dg6.take n)) ?first ?next
    case first =>
      k_steps
      refine of_hold ?_
      (refine Mine.ord _ _ _ _ _ _ _ _ _ _ _ _ _ _ _ _ _ _ _ (dg6.take n) _ _ _ (by k_asm) (by k_asm) (by k_asm) (by k_asm) (by k_asm) (by first | exact rfl | assumption) hL hI (by omega) (by rw [dg6_len h4 h6]; omega) (by ktr_room) (by ktr_units) ?_; intro o6 t6' h6' k6' F6' N6' ho6)
      k_steps
      exact cut_end (o6, _) (by k_asm) (by k_asm) (by kst_anyIn) (by kst_all) (by intro z h2; simp only [List.forall_mem_cons, List.not_mem_nil, false_implies, implies_true, and_true, ne_eq] at h2; simp [h2]) ho6
    case next =>
      rintro ⟨o, to⟩ h9 tk9 ho F9 N9
      clear F8 N8
      dsimp only [kstB] at F9
      dsimp only at ho
      have hG := good h4 h6 ho
      have hsl : (dg6.take n).length = n := dg6_len h4 h6
      have hol : o.length = n := hG.len.trans hsl
      have hpw6 : (dg6.take n).Pairwise (· < ·) := (by decide : dg6.Pairwise (· < ·)).sublist (List.take_sublist _ _)
      have hsg : ∀ x ∈ dg6.take n, x ∈ dg := fun x hx => List.mem_of_mem_take hx
      refine cutF F9 (σ := (List Value × Nat × Addr) × Tok) (fun c => [(c.1.2.2, listOf c.1.1.toArray c.1.2.1)]) (fun c => [(Str.ofString "row", .str (S (runRow o)) c.2), (Str.ofString "seen", .ref c.1.2.2)]) (fun c => StrsAre c.1.1 ((runSeen o).map fun st => S (enc st))) ?first ?next
      case first =>
        k_steps
        refine of_hold ?_
        (refine Mine.run _ _ _ _ _ _ _ _ _ _ _ _ _ _ _ _ o _ _ _ (by k_asm) (by k_asm) (by k_asm) (by k_asm) (by k_asm) (by first | exact rfl | assumption) hG.run (by ktr_room) (by ktr_units) ?_; intro T6 D6 vs6 cap6 t6' h6' k6' F6' N6' hDT6 hlt6 hss6)
        k_steps
        exact cut_end ((vs6, cap6, D6), t6') (by k_asm) (by k_asm) (by kst_inAny) (by kst_all) (by intro z h2; simp only [List.forall_mem_cons, List.not_mem_nil, false_implies, implies_true, and_true, ne_eq] at h2; simp [h2]) hss6
      case next =>
        rintro ⟨⟨vs, cap, D⟩, tr⟩ h10 tk10 hss F10 N10
        clear F9 N9
        dsimp only [kstB] at F10
        dsimp only at hss N10
        refine cutC F10 N10 (σ := Unit) (fun _ => []) (fun _ => True) ?first ?next
        case first =>
          k_steps
          refine of_hold ?_
          (refine' tellsN_use (c := cRule) (d := (6, o)) ?k1 ?k2 ?k3 ?k4 ?k5 ?kK ?kR (Crule _) ?ko ?kd ?ku ?_; (case k1 => k_asm); (case k2 => k_asm); (case k3 => k_asm); (case k4 => k_asm); (case k5 => k_asm); (case kK => first | exact rfl | assumption); (case kR => exact ⟨_, rfl⟩); (case ko => exact ⟨by have := hG.len; dsimp only; omega, Nat.le_refl _, hG.nd⟩); (case kd => ktr_room); (case ku => ktr_units); intro r9 tl9 h9' tk9' F9' N9' hl9 ht9 ho9; (replace ht9 : tl9 = [] := ht9); subst ht9; clear hl9; rw [List.append_nil] at N9'; (obtain ⟨t9, e9⟩ := ho9; replace e9 : r9 = .str (S (runRow o)) t9 := e9.trans (by rw [hG.rule]); subst e9); (try dsimp only))
          k_with "ne" => refine k_neF rfl ?_
          k_steps
          refine of_hold ?_
          (refine' tellsN_use (c := cPrs) (d := (o, runRow o, dg6.take n)) ?k1 ?k2 ?k3 ?k4 ?k5 ?kK ?kR (Cprs _) ?ko ?kd ?ku ?_; (case k1 => k_asm); (case k2 => k_asm); (case k3 => k_asm); (case k4 => k_asm); (case k5 => k_asm); (case kK => first | exact rfl | assumption); (case kR => exact ⟨_, _, _, rfl⟩); (case ko => exact ⟨by have := hG.len; dsimp only; omega, hpw6, hsg, by dsimp only; omega, by dsimp only; omega, hG.rnd, hG.rin, hG.prs⟩); (case kd => ktr_room); (case ku => ktr_units); intro r9 tl9 h9' tk9' F9' N9' hl9 ht9 ho9; (replace ht9 : tl9 = [] := ht9); subst ht9; clear hl9; rw [List.append_nil] at N9'; (replace ho9 : r9 = .bool true := ho9; subst ho9); (try dsimp only))
          k_steps
          k_with_none
          exact cut_end () (by k_asm) (by k_asm) (by kst_anyIn) (by kst_all) (fun _ _ => rfl) trivial
        case next =>
          rintro ⟨⟩ h11 tk11 - F11 N11
          clear F10 N10
          dsimp only [kstB] at F11
          refine cutC F11 N11 (σ := Nat × Tok) (fun c => [(Str.ofString "gap", .int (c.1 : Int) c.2)]) (fun c => 1 ≤ c.1 ∧ c.1 < n) ?first ?next
          case first =>
            k_with "mod" => (refine k_mod (by omega) ?_; intro p6 hp6)
            k_steps
            k_with_none
            have ep : (1 : Int) + (p6 : Int) = ((1 + p6 : Nat) : Int) := by omega
            (rename Fr _ _ _ _ => F')
            rw [ep] at F'
            exact cut_end (1 + p6, _) F' (by k_asm) (by kst_anyIn) (by kst_all) (by intro z h2; simp only [List.forall_mem_cons, List.not_mem_nil, false_implies, implies_true, and_true, ne_eq] at h2; simp [h2]) (by dsimp only; omega)
          case next =>
            rintro ⟨g, tg⟩ h12 tk12 ⟨hg1, hgn⟩ F12 N12
            clear F11 N11
            dsimp only [kstB] at F12
            dsimp only at hg1 hgn
            k_steps
            refine of_hold ?_
            refine For_invVF (by k_asm) rfl rfl ?_
            k_steps
            refine of_hold ?_
            (rename IsRange _ _ _ _ _ _ _ _ => rgX)
            (rename Fr _ _ _ _ => lF')
            (rename News _ _ _ _ => lN')
            refine my_rangeC (σ := Unit) (n - g) (fun _ => []) [Str.ofString "due"] (fun _ _ => True) () rfl rgX (small_one (by omega) (by omega) (by omega) (by omega)) (by unfold Builtin.Range.rangeSize; rw [if_pos (by omega)]; split <;> omega) lF' lN' (by kst_all) trivial ?turn ?done
            case turn =>
              rintro ⟨⟩ k ti u8 h8 tk8 own8 hi8 hoff8 - F8 N8
              clear lF' lN'
              dsimp only [kstB] at F8
              rw [Int.zero_add] at F8
              obtain ⟨gs1, gs2, gl, gh, glev⟩ := hG.gap k g hg1 (by omega)
              have hsn := hG.slen
              k_steps
              refine of_hold ?_
              have ekg : (k : Int) + (g : Int) = ((k + g : Nat) : Int) := by omega
              rw [ekg]
              (refine' tellsN_use (c := cApt) (d := (o, k, k + g)) ?k1 ?k2 ?k3 ?k4 ?k5 ?kK ?kR (Capt _) ?ko ?kd ?ku ?_; (case k1 => k_asm); (case k2 => k_asm); (case k3 => k_asm); (case k4 => k_asm); (case k5 => k_asm); (case kK => first | exact rfl | assumption); (case kR => exact ⟨_, _, _, rfl⟩); (case ko => exact ⟨by dsimp only; omega, by dsimp only; omega, by dsimp only; omega⟩); (case kd => ktr_room); (case ku => ktr_units); intro r9 tl9 h9' tk9' F9' N9' hl9 ht9 ho9; (replace ht9 : tl9 = [] := ht9); subst ht9; clear hl9; rw [List.append_nil] at N9'; (obtain ⟨t9, e9⟩ := ho9; subst e9); (try dsimp only))
              k_with "ritem" => ((rename News _ _ _ _ => N'); first | (refine k_seen (k := k) N' (.head _) hss (by omega) (by omega) (by omega) ?_; intro t6') | (refine k_seen (k := k + g) N' (.head _) hss (by omega) (by omega) (by omega) ?_; intro t6'))
              k_steps
              refine of_hold ?_
              (refine' tellsN_use (c := cLev) (d := (enc ((runSeen o).getD k []), enc ((runSeen o).getD (k + g) []), apt o k (k + g))) ?k1 ?k2 ?k3 ?k4 ?k5 ?kK ?kR (Clev _) ?ko ?kd ?ku ?_; (case k1 => k_asm); (case k2 => k_asm); (case k3 => k_asm); (case k4 => k_asm); (case k5 => k_asm); (case kK => first | exact rfl | assumption); (case kR => exact ⟨_, _, _, rfl⟩); (case ko => exact ⟨Nat.le_trans (stk_len _ gs1) (by decide), Nat.le_trans (stk_len _ gs2) (by decide), stk_alpha _ gs1, stk_alpha _ gs2, gl, gh⟩); (case kd => ktr_room); (case ku => ktr_units); intro r9 tl9 h9' tk9' F9' N9' hl9 ht9 ho9; (replace ht9 : tl9 = [] := ht9); subst ht9; clear hl9; rw [List.append_nil] at N9'; (obtain ⟨t9, e9⟩ := ho9; replace e9 : r9 = .int (apt o k (k + g)) t9 := e9.trans (by dsimp only; rw [glev]); subst e9); (try dsimp only))
              k_steps
              k_with_none
              exact ks_end () (by k_asm) (by k_asm) (by kst_inAny) (by kst_anyIn) rfl (by kst_all) (by kst_same) trivial
            case done =>
              rintro ⟨⟩ u8 h13 tk13 - F13 N13
              clear lF' lN'
              dsimp only [kstB] at F13
              refine cutC F13 N13 (σ := Tok) (fun c => [(Str.ofString "runs", .int 0 c)]) (fun _ => True) ?first ?next
              case first =>
                k_steps
                exact cut_end _ (by k_asm) (by k_asm) (by kst_anyIn) (by kst_all) (by intro z h2; simp only [List.forall_mem_cons, List.not_mem_nil, false_implies, implies_true, and_true, ne_eq] at h2; simp [h2]) trivial
              case next =>
                rintro t14 h14 tk14 - F14 N14
                clear F13 N13
                dsimp only [kstB] at F14
                refine cutC F14 N14 (σ := Tok) (fun c => [(Str.ofString "now", .str (S o) c)]) (fun _ => True) ?first ?next
                case first =>
                  k_steps
                  exact cut_end _ (by k_asm) (by k_asm) (by kst_anyIn) (by kst_all) (by intro z h2; simp only [List.forall_mem_cons, List.not_mem_nil, false_implies, implies_true, and_true, ne_eq] at h2; simp [h2]) trivial
                case next =>
                  rintro t15 h15 tk15 - F15 N15
                  clear F14 N14
                  dsimp only [kstB] at F15
                  refine cutC F15 N15 (σ := (List Nat × Tok) × (Int × Tok)) (fun c => [(Str.ofString "now", .str (S c.1.1) c.1.2), (Str.ofString "runs", .int c.2.1 c.2.2)]) (fun c => c.1.1 = (start (dg6.take n) o).1 ∧ c.2.1 = ((start (dg6.take n) o).2 : Int)) ?first ?next
                  case first =>
                    k_steps
                    · (rename o = _ => ha)
                      exact cut_end ((o, _), (0, _)) (by k_asm) (by k_asm) (by kst_anyIn) (by kst_all) (by intro z h2; simp only [List.forall_mem_cons, List.not_mem_nil, false_implies, implies_true, and_true, ne_eq] at h2; simp [h2]) ⟨by unfold start; rw [if_pos ha], by unfold start; rw [if_pos ha]; rfl⟩
                    · (rename ¬ o = _ => ha)
                      exact cut_end ((runRow o, _), (1, _)) (by k_asm) (by k_asm) (by kst_anyIn) (by kst_all) (by intro z h2; simp only [List.forall_mem_cons, List.not_mem_nil, false_implies, implies_true, and_true, ne_eq] at h2; simp [h2]) ⟨by unfold start; rw [if_neg ha], by unfold start; rw [if_neg ha]; rfl⟩
                  case next =>
                    rintro ⟨⟨nw, t16⟩, rn, u16⟩ h16 tk16 ⟨hnw, hrn⟩ F16 N16
                    clear F15 N15
                    dsimp only [kstB] at F16
                    dsimp only at hnw hrn
                    k_steps
                    refine of_hold ?_
                    refine For_invVF (by k_asm) rfl rfl ?_
                    k_steps
                    refine of_hold ?_
                    (rename IsRange _ _ _ _ _ _ _ _ => rgX)
                    (rename Fr _ _ _ _ => lF')
                    (rename News _ _ _ _ => lN')
                    refine my_rangeC (σ := (List Nat × Tok) × (Int × Tok)) (n - 2) (fun c => [(Str.ofString "now", .str (S c.1.1) c.1.2), (Str.ofString "runs", .int c.2.1 c.2.2)]) [Str.ofString "now", Str.ofString "runs"]
                      (fun k c => c.1.1 = (iterS (dg6.take n) k (start (dg6.take n) o)).1 ∧ c.2.1 = ((iterS (dg6.take n) k (start (dg6.take n) o)).2 : Int)) ((nw, _), (rn, _)) rfl rgX (small_one (by omega) (by omega) (by omega) (by omega)) (by unfold Builtin.Range.rangeSize; rw [if_pos (by omega)]; split <;> omega) lF' lN' (by kst_all) ⟨hnw, hrn⟩ ?turn ?done
                    case turn =>
                      rintro ⟨⟨nw, t17⟩, rn, u17⟩ k ti u9 h9 tk9 own9 hi9 hoff9 ⟨hnw, hrn⟩ F17 N17
                      clear lF' lN'
                      dsimp only [kstB] at F17
                      dsimp only at hnw hrn
                      have hok : okRun nw = true := by rw [hnw]; exact hG.steps k (by omega)
                      k_steps
                      · (rename nw = _ => ha)
                        exact ks_end ((nw, _), (rn, _)) (by k_asm) (by k_asm) (by kst_inAny) (by kst_anyIn) rfl (by kst_all) (by kst_same) (by
                          have e : iterS (dg6.take n) (k + 1) (start (dg6.take n) o) = iterS (dg6.take n) k (start (dg6.take n) o) := by
                            show runStep _ _ = _
                            unfold runStep; rw [← hnw, if_pos ha]
                          rw [e]; exact ⟨hnw, hrn⟩)
                      · refine of_hold ?_
                        (rename ¬ nw = _ => ha)
                        (refine Mine.run _ _ _ _ _ _ _ _ _ _ _ _ _ _ _ _ nw _ _ _ (by k_asm) (by k_asm) (by k_asm) (by k_asm) (by k_asm) (by first | exact rfl | assumption) hok (by ktr_room) (by ktr_units) ?_; intro T6 D6 vs6 cap6 t6' h6' k6' F6' N6' hDT6 hlt6 hss6)
                        k_steps
                        exact ks_end ((runRow nw, _), (rn + 1, _)) (by k_asm) (by k_asm) (by kst_inAny) (by kst_anyIn) rfl (by kst_all) (by kst_same) (by
                          have e : iterS (dg6.take n) (k + 1) (start (dg6.take n) o) = (runRow nw, (iterS (dg6.take n) k (start (dg6.take n) o)).2 + 1) := by
                            show runStep _ _ = _
                            unfold runStep; rw [← hnw, if_neg ha]
                          rw [e]; exact ⟨rfl, by dsimp only; rw [hrn]; omega⟩)
                    case done =>
                      rintro ⟨⟨nw, t17⟩, rn, u17⟩ u9 h9 tk9 ⟨hnw, hrn⟩ F17 N17
                      clear lF' lN'
                      dsimp only [kstB] at F17
                      dsimp only at hnw hrn
                      have f1 := hG.fin1
                      have f2 := hG.fin2
                      rw [hsl] at f1 f2
                      have hns : nw = dg6.take n := hnw.trans f1
                      k_with "eq" => first | refine k_eqT hns ?_ | refine k_eq ?_
                      k_steps
end
end Mine
theorem PySem.Challenge.cw_xg0050_01_holds : PySem.Challenge.rw_xg0050_01.Holds := by
  exact Mine.lawT
