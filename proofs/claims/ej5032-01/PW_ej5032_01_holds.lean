import PyProof.Rows.All
import Wide.All
import OpenK.AllK
import Wide.FinOn
import Lean
import PySem.Challenge.RW_ej5032_01

set_option Elab.async false

namespace Mine
section
open PySem PySem.W PyProof.Rows
set_option maxRecDepth 100000
set_option maxHeartbeats 8000000
open_top hd for PySem.Challenge.rw_ej5032_01
end
end Mine

namespace Mine
section
open PySem PySem.W PyProof.Rows PySem.Spec PySem.Calls

abbrev lawName : Str := Str.ofString "law"
abbrev lawScope (ns : List (Str × NameKind)) : Scope := { kind := ScopeKind.function, names := ns, isGenerator := false, isCoroutine := false }
abbrev lawEnv (ns : List (Str × NameKind)) (L fa : Addr) (cd : Value) : Env := envOf lawName (lawScope ns) L fa cd
abbrev lawA (ns : List (Str × NameKind)) (L fa : Addr) (cd : Value) : Around := callerA.deeper (lawEnv ns L fa cd)


theorem fill : (fun (_ : OpenLaw) => True) PySem.Challenge.rw_ej5032_01 ∧ ∀ P, hd.heap_39 P = hd.heap_39 P := by
  k_fill
  exact ⟨trivial, fun _ => rfl⟩
end
end Mine

namespace Mine
section
open PySem PySem.W PyProof.Rows PySem.Spec PySem.Calls
set_option maxRecDepth 100000
set_option maxHeartbeats 4000000

def wordOf (n : Int) : Str := if n.fmod 5 = 0 then Str.ofString "" else Str.ofString "w" ++ Str.ofString (toString ((if n < 0 then -n else n).fmod 1000))
def wrapS (k : Int) (msg : Str) : Str := Str.ofString "Serialization failed because of element at index " ++ Str.ofString (toString k) ++ Str.ofString " (\"" ++ msg ++ Str.ofString "\")"
def wrapD (k : Int) (msg : Str) : Str := Str.ofString "Deserialization failed because of element at index " ++ Str.ofString (toString k) ++ Str.ofString " (\"" ++ msg ++ Str.ofString "\")"
theorem wrapS_of (k : Int) (msg : Str) : Str.ofString "Serialization" ++ Str.ofString " failed because of element at index " ++ Str.ofString (toString k) ++ Str.ofString " (\"" ++ msg ++ Str.ofString "\")" = wrapS k msg := by
  unfold wrapS
  rw [show Str.ofString "Serialization" ++ Str.ofString " failed because of element at index " = Str.ofString "Serialization failed because of element at index " from by decide]
theorem wrapD_of (k : Int) (msg : Str) : Str.ofString "Deserialization" ++ Str.ofString " failed because of element at index " ++ Str.ofString (toString k) ++ Str.ofString " (\"" ++ msg ++ Str.ofString "\")" = wrapD k msg := by
  unfold wrapD
  rw [show Str.ofString "Deserialization" ++ Str.ofString " failed because of element at index " = Str.ofString "Deserialization failed because of element at index " from by decide]
theorem digit_len {k : Int} (h0 : 0 ≤ k) (h1 : k < 6) : (Str.ofString (toString k)).length = 1 := by
  have : k = 0 ∨ k = 1 ∨ k = 2 ∨ k = 3 ∨ k = 4 ∨ k = 5 := by omega
  rcases this with rfl | rfl | rfl | rfl | rfl | rfl <;> decide
theorem wrapS_len {k : Int} {m : Str} (h0 : 0 ≤ k) (h1 : k < 6) : (wrapS k m).length ≤ m.length + 60 := by
  have a : (Str.ofString "Serialization failed because of element at index ").length = 49 := by decide
  have b : (Str.ofString " (\"").length = 3 := by decide
  have c : (Str.ofString "\")").length = 2 := by decide
  have d := digit_len h0 h1
  unfold wrapS
  simp only [strLen_append, a, b, c, d]
  omega
theorem wrapD_len {k : Int} {m : Str} (h0 : 0 ≤ k) (h1 : k < 6) : (wrapD k m).length ≤ m.length + 60 := by
  have a : (Str.ofString "Deserialization failed because of element at index ").length = 51 := by decide
  have b : (Str.ofString " (\"").length = 3 := by decide
  have c : (Str.ofString "\")").length = 2 := by decide
  have d := digit_len h0 h1
  unfold wrapD
  simp only [strLen_append, a, b, c, d]
  omega
theorem word_pos {n : Int} (h : ¬ n.fmod 5 = 0) : 1 ≤ (wordOf n).length := by
  unfold wordOf
  rw [if_neg h, strLen_append, show (Str.ofString "w").length = 1 from by decide]
  omega
theorem word_zero {n : Int} (h : n.fmod 5 = 0) : wordOf n = Str.ofString "" := if_pos h
theorem word_len (n : Int) : (wordOf n).length ≤ 5 := by
  unfold wordOf
  split
  · decide
  · have h0 : 0 ≤ (if n < 0 then -n else n).fmod 1000 := Int.fmod_nonneg_of_pos _ (by decide)
    have h1 : (if n < 0 then -n else n).fmod 1000 < 10 ^ 3 := Int.fmod_lt_of_pos _ (by decide)
    have := toString_length_le h0 (k := 3) (by decide) h1
    rw [strLen_append, show (Str.ofString "w").length = 1 from by decide]
    omega
section
variable {w : World} {p : Program} {loose : List Str} {mean : ExcName → Option Value} {mg mb : Str → Option Value} {h₀ : Heap} {ns : List (Str × NameKind)} {L fa : Addr} {cd : Value} {m : Str → Option Value} {news : List (Addr × Obj)} {s : Shared} {Q E : Value → Shared → Prop}

theorem word_call (B : Below callerA h₀ [] h₀) (F : Fr h₀ L s.heap m) (X : (hd.heap_39 w.params).In h₀) (N : News h₀ L s.heap news) (T : Top p loose mean mg mb h₀)
    {n : Int} {t : Tok} 
    (hret : ∀ (u : Tok) h' tk', Fr h₀ L h' m → News h₀ L h' news → Q (.str (wordOf n) u) { s with heap := h', toks := tk' }) :
    wpAny (model PySem.Challenge.rw_ej5032_01.row.prog w) (lawA ns L fa cd) (call (.ref 176) [.int n t]) Q E s := by
  refine wpAny_call ?_
  k_enter
  k_steps
  · have e : wordOf n = Str.ofString "" := if_pos (by assumption)
    rw [e] at hret
    exact hret _ _ _ (by assumption) (by assumption)
  · have e : wordOf n = _ := if_neg (by assumption)
    rw [e] at hret
    exact hret _ _ _ (by assumption) (by assumption)

theorem wrS_call (B : Below callerA h₀ [] h₀) (F : Fr h₀ L s.heap m) (X : (hd.heap_39 w.params).In h₀) (N : News h₀ L s.heap news) (T : Top p loose mean mg mb h₀)
    {inner : Str} {k : Int} {t u v : Tok} (hi : inner.length ≤ 10000) (hk0 : 0 ≤ k) (hk1 : k < 6)
    (hret : ∀ (u : Tok) h' tk', Fr h₀ L h' m → News h₀ L h' news → Q (.str (wrapS k inner) u) { s with heap := h', toks := tk' }) :
    wpAny (model PySem.Challenge.rw_ej5032_01.row.prog w) (lawA ns L fa cd) (call (.ref 183) [.str (Str.ofString "Serialization") t, .int k u, .str inner v]) Q E s := by
  rw [← wrapS_of] at hret
  refine wpAny_call ?_
  k_enter
  k_steps
  exact hret _ _ _ (by assumption) (by assumption)
theorem wrD_call (B : Below callerA h₀ [] h₀) (F : Fr h₀ L s.heap m) (X : (hd.heap_39 w.params).In h₀) (N : News h₀ L s.heap news) (T : Top p loose mean mg mb h₀)
    {inner : Str} {k : Int} {t u v : Tok} (hi : inner.length ≤ 10000) (hk0 : 0 ≤ k) (hk1 : k < 6)
    (hret : ∀ (u : Tok) h' tk', Fr h₀ L h' m → News h₀ L h' news → Q (.str (wrapD k inner) u) { s with heap := h', toks := tk' }) :
    wpAny (model PySem.Challenge.rw_ej5032_01.row.prog w) (lawA ns L fa cd) (call (.ref 183) [.str (Str.ofString "Deserialization") t, .int k u, .str inner v]) Q E s := by
  rw [← wrapD_of] at hret
  refine wpAny_call ?_
  k_enter
  k_steps
  exact hret _ _ _ (by assumption) (by assumption)
end
end
end Mine

namespace Mine
section
open PySem PySem.W PyProof.Rows PySem.Spec PySem.Calls
set_option maxRecDepth 100000
set_option maxHeartbeats 4000000

abbrev exObj (C t : Addr) (d : Option Addr) (tb : Value) : Obj := { cls := .ref C, dict := d, data := .fields #[.ref t, tb, .none, .none, .bool false, .none] }
abbrev tupObj (vs : List Value) : Obj := { cls := .type "tuple", data := .seq vs.toArray }

def xIn (K : Frag) (C : Addr) : Bool := match K.lookup C with
  | some ⟨_, _, .cls cd, sl⟩ => !cd.abstract && !cd.hasDel && (sl.toList[4]?).join == some (.builtin "Exception.__new__") && !cd.mro.isEmpty && cd.mro.contains (.ref C) && cd.mro.contains (.type "Exception") && cd.mro.contains (.type "BaseException") && !cd.mro.contains (.type "AttributeError") && !cd.mro.contains (.type "NameError") &&
      specialIn K (.ref C) "__call__" == some (some (.builtin "type.__call__")) && instIn K (.ref C) (.type "type") == some true
  | _ => false

structure XMakes (M : Model) (h : Heap) (C : Addr) : Prop where
  obj : ∃ oc od cd sl, h.get? C = some ⟨oc, od, .cls cd, sl⟩ ∧ cd.abstract = false ∧ cd.hasDel = false ∧ cd.mro.isEmpty = false
  made : Looks M h (Bind.madeBy (.ref C)) (some "Exception.__new__")
  base : Looks M h (Bind.staticBase (.ref C)) (.ref C)
  self : Looks M h (isSubtype (.ref C) (.ref C)) true
  exc : Looks M h (isSubtype (.ref C) (.type "Exception")) true
  bexc : Looks M h (isSubtype (.ref C) (.type "BaseException")) true
  noAttr : Looks M h (isSubtype (.ref C) (.type "AttributeError")) false
  noName : Looks M h (isSubtype (.ref C) (.type "NameError")) false
  call : Looks M h (specialOf (.ref C) "__call__") (some (.builtin "type.__call__"))
  typ : Looks M h (isInstance (.ref C) (.type "type")) true

theorem xMakes_of {K : Frag} {M : Model} {h : Heap} (X : K.In h) {C : Addr} (e : xIn K C = true) : XMakes M h C := by
  unfold xIn at e
  split at e
  · rename_i oc od cd sl ho
    simp only [Bool.and_eq_true, Bool.not_eq_true', beq_iff_eq] at e
    obtain ⟨⟨⟨⟨⟨⟨⟨⟨⟨⟨e1, e2⟩, e3⟩, e4⟩, e5⟩, e6⟩, e7⟩, e8⟩, e9⟩, e10⟩, e11⟩ := e
    have hc : clsIn K C = some cd := by unfold clsIn; rw [ho]
    have hm : Looks M h (mroOf (.ref C)) cd.mro := (looks_clsIn X hc).andThen .now
    obtain ⟨c, l, hl⟩ : ∃ c l, cd.mro = c :: l := by cases q : cd.mro with | nil => rw [q] at e4; cases e4 | cons c l => exact ⟨c, l, rfl⟩
    have made : Looks M h (Bind.madeBy (.ref C)) (some "Exception.__new__") := by
      intro A Q E s k q
      unfold Bind.madeBy
      refine wpAny_bind (hm A _ E s k ?_)
      rw [hl, List.forIn_cons]
      refine wpAny_bind (wpAny_bind (wpAny_bind (wpAny_bind (wpAny_loadPart (k _ _ (X _ _ ho)) (wpAny_pure ?_)))))
      dsimp only
      rw [← Array.getElem?_toList, e3]
      exact wpAny_pure (wpAny_pure (wpAny_pure q))
    have sub : ∀ b r, cd.mro.contains b = r → Looks M h (isSubtype (.ref C) b) r := fun b r q => looks_mroIn X (by unfold mroIn; rw [hc, Option.bind_some, if_neg (by rw [e4]; decide), q])
    refine ⟨⟨oc, od, cd, sl, X _ _ ho, e1, e2, e4⟩, made, ?_, sub _ _ e5, sub _ _ e6, sub _ _ e7, sub _ _ e8, sub _ _ e9, looks_specialIn X e10, looks_instIn X e11⟩
    intro A Q E s k q
    unfold Bind.staticBase
    refine wpAny_bind (hm A _ E s k ?_)
    rw [hl, List.forIn_cons]
    exact wpAny_bind (wpAny_bind (wpAny_bind (made A _ E s k (wpAny_pure (wpAny_pure (wpAny_pure q))))))
  · cases e

section
variable {prog : Program} {w : World} {A : Around} {C : Addr} {R : Result → Shared → Prop} {h : Heap} {g : Array GenState} {d : Drawn} {t : Nat} {os : OsState}
theorem x_check {M : Model} {E : Value → Shared → Prop} {rest : List Value} {kw : List (Str × Value)} {Q : Unit → Shared → Prop} (Y : XMakes M h C) (q : Q () ⟨h, g, d, t, os⟩) :
    wpAny M A (checkBuiltinCall "Exception.__new__" ⟨.ref C :: rest, kw⟩) Q E ⟨h, g, d, t, os⟩ := by
  obtain ⟨⟨oc, od, cd, sl, hC, e1, e2, e4⟩, made, base, self, exc, bexc, noA, noN, call, typ⟩ := Y
  have F := PySem.F.excBase_Exception
  simp only [checkBuiltinCall, F.newKind, F.newSplit, F.newRow]
  have here : Looks M h (Bind.madeHere "Exception.__new__" (.ref C)) () := base.andThen (made.andThen (Looks.of_pure (by simp only [Option.map_some, bne_self_eq_false, Bool.false_eq_true, if_false])))
  repeat (first | simp only [bne_self_eq_false, Bool.false_eq_true, if_false] | lk)
  all_goals exact q

theorem x_new {rest : List Value} {kw : List (Str × Value)} (Y : XMakes (model prog w) h C)
    (hq : R (.ok (.ret (.ref (h.objs.size + 1)))) ⟨(h.push (tupObj rest)).push (exObj C h.objs.size none .none), g, d, t, os⟩) (hz : rest.length ≤ sizeLine) :
    codeAny (model prog w) A (.call (.builtin "Exception.__new__") ⟨.ref C :: rest, kw⟩) R ⟨h, g, d, t, os⟩ := by
  have Y' := Y
  obtain ⟨⟨oc, od, cd, sl, hC, e1, e2, e4⟩, made, base, self, exc, bexc, noA, noN, call, typ⟩ := Y
  have F := PySem.F.excBase_Exception
  refine codeAny_call_builtin_code (Code.quiet_builtin _ F.quiet) (x_check Y' ?_)
  have hends := F.ends
  refine codeAny_builtinAt F.entry ?_
  unfold Builtin.«BaseException.__new__»
  refine _root_.PySem.wpAt_bind ?_
  show _root_.PySem.wpAt _ _ _ (stack >>= _) _ _ _
  refine _root_.PySem.wpAt_bind (_root_.PySem.wpAt_stack fun p below => _root_.PySem.wpAt_of_wpAny ?_)
  have here : Looks (model prog w) h (Bind.madeHere "BaseException.__new__" (.ref C)) () := base.andThen (made.andThen (Looks.of_pure (by simp only [Option.map_some, F.canon, bne_self_eq_false, Bool.false_eq_true, if_false])))
  wp_walk
  refine _root_.PySem.wpAt_of_wpAny ?_
  rw [F.owner]
  have hC1 := Heap.get?_push_of_some (tupObj rest) hC
  repeat (first | simp only [bne_self_eq_false, Bool.false_eq_true, if_false] | lk)
  rw [if_neg (by simp only [List.size_toArray]; omega)]
  have hC2 := Heap.get?_push_of_some { cls := .ref C, data := .fields (#[.ref h.objs.size, .none, .none, .none, .bool false, .none] ++ (List.replicate 0 (rawInt 0)).toArray) } hC1
  repeat lk
  rw [e2]
  repeat lk
  rw [Heap.size_push]
  exact hq

theorem x_make_core {rest : List Value} {kw : List (Str × Value)} {init : Value} (Y : XMakes (model prog w) h C) (hi : Looks (model prog w) h (typeLookup (.ref C) "__init__") (some init))
    (hb : ∀ self, Looks (model prog w) h (bindSpecial init self) (init, [self])) (hz : rest.length ≤ sizeLine)
    (hq : codeAny (model prog w) (A.under (.builtin "type.__call__" ⟨.ref C :: rest, kw⟩)) (.call init ⟨.ref (h.objs.size + 1) :: rest, kw⟩) (InitBack (h.objs.size + 1) R) ⟨(h.push (tupObj rest)).push (exObj C h.objs.size none .none), g, d, t, os⟩) :
    codeAny (model prog w) A (.call (.ref C) ⟨rest, kw⟩) R ⟨h, g, d, t, os⟩ := by
  have Y' := Y
  obtain ⟨⟨oc, od, cd, sl, hC, e1, e2, e4⟩, made, base, self, exc, bexc, noA, noN, call, typ⟩ := Y
  refine codeAny_of_tree ?_
  show wpAny _ _ (callAny (.ref C) _) _ _ _
  refine nd_load hC ?_
  show wpAny _ _ (callAny.viaDunder (.ref C) _) _ _ _
  unfold callAny.viaDunder
  refine wpAny_bind (call.at ?_)
  dsimp only
  rw [tc_bind]
  refine wpAny_bind (wpAny_pure (wpAny_bind (wpAny_pure ?_)))
  refine wpAny_pure (a := Fin.again (.call (.builtin "type.__call__") ⟨.ref C :: rest, kw⟩)) (And.intro rfl ?_)
  refine codeAny_call_builtin_at (Code.quiet_builtin _ (by decide +kernel)) entry_typeCall (check_slot tc_kind tc_split typ (tc_args _ _ _) ?_)
  unfold Builtin.«type.__call__»
  have hm : Looks (model prog w) h (mroOf (.ref C)) cd.mro := ((Looks.ld (part := none) hC).andThen .now).andThen .now
  repeat (first | simp only [e4, Bool.false_eq_true, if_false] | with_reducible refine wpAny_call ?_ | lk)
  refine x_new Y' ?_ hz
  have k : ∀ b o, h.get? b = some o → ((h.push (tupObj rest)).push (exObj C h.objs.size none .none)).get? b = some o := fun b o e => Heap.get?_push_of_some _ (Heap.get?_push_of_some _ e)
  have hx : ((h.push (tupObj rest)).push (exObj C h.objs.size none .none)).get? (h.objs.size + 1) = some (exObj C h.objs.size none .none) := by heap_get
  have t1 : Looks (model prog w) ((h.push (tupObj rest)).push (exObj C h.objs.size none .none)) (typeOf (.ref (h.objs.size + 1))) (.ref C) := (Looks.ld hx).andThen .now
  have s1 := self.keeps k
  have i1 := hi.keeps k
  have b1 := (hb (.ref (h.objs.size + 1))).keeps k
  unfold isInstance callSpecial? specialOf
  repeat (first | with_reducible refine wpAny_call ?_ | lk)
  refine codeAny_mono hq fun r s' z => ?_
  rcases r with e | (v | _ | _ | _) <;> first | exact z | exact z.elim | skip
  obtain ⟨rfl, z⟩ := z
  exact wpAny_pure (wpAny_pure z)
end

section
variable {prog : Program} {w : World} {A : Around} {K : Frag} {C : Addr} {s : Shared} {h₀ : Heap} {L : Addr} {m : Str → Option Value} {news : List (Addr × Obj)} {R : Result → Shared → Prop} {E Q : Value → Shared → Prop}
theorem x_call {pos : List Value} {kw : List (Str × Value)} {fI : Addr} (F : Fr h₀ L s.heap m) (X₀ : K.In h₀) (N : News h₀ L s.heap news) (hm : xIn K C = true) (hi : findIn K (.ref C) "__init__" = some (some (.ref fI))) (hf : isFn K (.ref fI) = true)
    (hz : pos.length ≤ 1000)
    (h : ∀ x t h', Fr h₀ L h' m → News h₀ L h' ((x, exObj C t none .none) :: (t, tupObj pos) :: news) → (∀ p ∈ news, p.1 < t) → t < x →
      codeAny (model prog w) (A.under (.builtin "type.__call__" ⟨.ref C :: pos, kw⟩)) (.call (.ref fI) ⟨.ref x :: pos, kw⟩) (InitBack x fun r s' => match r with | .ok (.ret v) => Q v s' | .ok _ => False | .error e => E e s') { s with heap := h' }) :
    wpAny (model prog w) A (call (.ref C) pos kw) Q E s := by
  have X := X₀.keeps F.keep
  obtain ⟨hh, g, d, t, os⟩ := s
  refine wpAny_call (x_make_core (xMakes_of X hm) (looks_findIn X hi) (fun self => bind_fn X self (beq_iff_eq.mp hf)) (by rw [sizeLine_eq]; omega) (h _ hh.objs.size _ ((F.push _).push _) ?_ (fun p hp => Heap.lt_size (N p hp).1) (Nat.lt_succ_self _)))
  have := (N.push F (tupObj pos)).push (F.push _) (exObj C hh.objs.size none .none)
  rwa [Heap.size_push] at this
end
end
end Mine

namespace Mine
section
open PySem PySem.W PyProof.Rows PySem.Spec PySem.Calls Builtin Builtin.ObjectAttr
set_option maxRecDepth 100000
set_option maxHeartbeats 4000000

def xTail : List Value → Bool
  | [.type a, .type b, .type c] => a == "Exception" && b == "BaseException" && c == "object"
  | .ref _ :: r => xTail r
  | _ => false
theorem xTail_eq : ∀ {l : List Value}, xTail l = true → (∃ c r, l = .ref c :: r ∧ xTail r = true) ∨ l = [.type "Exception", .type "BaseException", .type "object"]
  | [.type a, .type b, .type c], e => by
    simp only [xTail, Bool.and_eq_true, beq_iff_eq] at e
    obtain ⟨⟨rfl, rfl⟩, rfl⟩ := e
    exact .inr rfl
  | .ref c :: r, e => .inl ⟨c, r, rfl, by cases r <;> first | exact e | cases e⟩
theorem xTail_passes (self : Value) : ∀ {l : List Value}, xTail l = true → refuseLoop self "__setattr__" l = pure ()
  | l, e => by
    rcases xTail_eq e with ⟨c, r, rfl, e'⟩ | rfl
    · rw [refuseLoop_ref]; exact xTail_passes self e'
    · exact PySem.F.store_Exception.passes self
theorem xTail_has {b : Value} (hb : ([.type "Exception", .type "BaseException", .type "object"] : List Value).contains b = true) : ∀ {l : List Value}, xTail l = true → l.contains b = true
  | l, e => by
    rcases xTail_eq e with ⟨c, r, rfl, e'⟩ | rfl
    · rw [List.contains_cons, xTail_has hb e', Bool.or_true]
    · exact hb
def xOver (K : Frag) (C : Addr) : Bool := (clsIn K C).any fun cd => xTail cd.mro && cd.hasDict

theorem exAt {h₀ h : Heap} {L x C t dx : Addr} {tb : Value} {od : Obj} {news : List (Addr × Obj)} (N : News h₀ L h news) (h1 : (x, exObj C t (some dx) tb) ∈ news) (h2 : (dx, od) ∈ news) : InstAt h x (exObj C t (some dx) tb) C (some od) := ⟨(N _ h1).1, rfl, rfl, (N _ h2).1⟩
theorem exAt0 {h₀ h : Heap} {L x C t : Addr} {tb : Value} {news : List (Addr × Obj)} (N : News h₀ L h news) (h1 : (x, exObj C t none tb) ∈ news) : InstAt h x (exObj C t none tb) C none := ⟨(N _ h1).1, rfl, rfl, trivial⟩

theorem nd_update {α : Type} {M : Model} {A : Around} {Q : α → Shared → Prop} {E : Value → Shared → Prop} {s : Shared} {a : Addr} {p : Option Value} {f : Obj → Obj} {k : Unit → Sem α} {o : Obj} (ho : s.heap.get? a = some o)
    (h : wpAny M A (k ()) Q E { s with heap := s.heap.update a f }) : wpAny M A (.update a p f k) Q E s := fun Γ q hΓ => ⟨by rw [ho]; rfl, h Γ q hΓ⟩

section
variable {prog : Program} {w : World} {A : Around} {K : Frag} {C x : Addr} {s : Shared} {h₀ : Heap} {L : Addr} {m : Str → Option Value} {news : List (Addr × Obj)} {R : Result → Shared → Prop}
theorem x_osa_open {ox : Obj} {od : Option Obj} {name : Str} {tk : Tok} {v : Value} (X : K.In s.heap) (I : InstAt s.heap x ox C od) (hp : xOver K C = true) (ht : takerIn K C name = some none)
    (h : ∀ b, wpAny (model prog w) A.in1 (storeInOwnDict (.ref x) (.ref C) (.str name tk) name v b)
      (fun fin s' => match fin with | .done f => R (.ok f) s' | .again c' => c'.quiet = true ∧ codeAny (model prog w) A c' R s') (fun e s' => R (.error e) s') s) :
    codeAny (model prog w) A (.call (.builtin "object.__setattr__") ⟨[.ref x, .str name tk, v], []⟩) R s := by
  have SF := PySem.F.store_object
  obtain ⟨cd, hc, ho⟩ := any_some hp
  obtain ⟨ho, hdict⟩ := Bool.and_eq_true_iff.mp ho
  have ne : cd.mro.isEmpty = false := by
    rcases xTail_eq ho with ⟨c, r, q, e'⟩ | q <;> rw [q] <;> rfl
  have sub : Looks (model prog w) s.heap (isInstance (.ref x) (.type "object")) true := I.type.andThen (looks_mroIn X (by unfold mroIn; rw [hc, Option.bind_some, if_neg (by rw [ne]; decide), xTail_has (by decide) ho]))
  refine codeAny_call_builtin SF.slot.plain SF.entry (@check_slot (model prog w) _ _ s "object.__setattr__" "object" "__setattr__" (.ref x) [.str name tk, v] [] _ SF.kind SF.split sub (SF.args (.ref x) (.str name tk) v) ?_)
  obtain ⟨attr, ha, hr⟩ := Option.bind_eq_some_iff.mp ht
  have hm : Looks (model prog w) s.heap (mroOf (.ref C)) cd.mro := (looks_clsIn X hc).andThen .now
  have L3 : Looks (model prog w) s.heap (storeTaker? attr) none := by
    cases attr with
    | none => cases hr; exact .now
    | some a =>
      obtain ⟨b, hb, hr⟩ := Option.map_eq_some_iff.mp hr
      refine (looks_takesIn X hb).andThen ?_
      cases b with
      | true => cases hr
      | false => exact .now
  rw [osa_eq, refuse_eq]
  refine wpAny_bind (wpAny_bind (I.type.here (wpAny_bind (hm.here ?_))))
  rw [xTail_passes _ ho]
  refine wpAny_pure (wpAny_bind (I.type.here (wpAny_bind ((looks_findIn X ha).here (wpAny_bind (L3.here ?_))))))
  exact h _

theorem x_set0 {E : Value → Shared → Prop} {t : Addr} {tb : Value} {name : Str} {v : Value} {Q : Unit → Shared → Prop} {news' : Addr → List (Addr × Obj)} (F : Fr h₀ L s.heap m) (X₀ : K.In h₀) (N : News h₀ L s.heap news) (hx : (x, exObj C t none tb) ∈ news)
    (hs : findIn K (.ref C) "__setattr__" = some (some (.builtin "object.__setattr__"))) (hp : xOver K C = true) (ht : takerIn K C name = some none)
    (U : ∀ d, Upd x (exObj C t none tb) (exObj C t (some d) tb) news (news' d))
    (h : ∀ d h', Fr h₀ L h' m → News h₀ L h' ((d, dictOf [⟨PyData.keyHash w.params name, .str name (s.toks + 1), v⟩] 1) :: news' d) → (∀ p ∈ news, p.1 < d) → Q () { s with heap := h', toks := s.toks + 2 }) :
    wpAny (model prog w) A (setAttr (.ref x) name v) Q E s := by
  obtain ⟨hh, g, dr, tks, os⟩ := s
  have X := X₀.keeps F.keep
  have I := exAt0 N hx
  refine set_plain X I hs ?_
  refine x_osa_open (s := ⟨hh, g, dr, tks + 1, os⟩) X I hp ht fun b => ?_
  obtain ⟨cd, hc, hd'⟩ := any_some hp
  obtain ⟨ho, hdict⟩ := Bool.and_eq_true_iff.mp hd'
  obtain ⟨pre, post, e1, e2, a1, a2⟩ := (U hh.objs.size).split
  have Lt : ∀ p ∈ news, p.1 < hh.objs.size := fun p hp => Heap.lt_size (N p hp).1
  have F1 := F.push emptyDict
  have N1 := N.push F emptyDict
  have cls := looks_clsIn (M := model prog w) X hc
  have hx' := I.at_
  refine wpAny_bind (wpAny_pure (wpAny_bind (wpAny_bind (wpAny_loadPart hx' (wpAny_bind (cls.at ?_))))))
  rw [hdict]
  repeat lk
  have ne1 : ∀ p ∈ pre, p.1 < hh.objs.size := fun p hp => Lt p (by rw [e1]; exact List.mem_append_left _ hp)
  have ne2 : ∀ p ∈ post, p.1 < hh.objs.size := fun p hp => Lt p (by rw [e1]; exact List.mem_append_right _ (.tail _ hp))
  have nx : x < hh.objs.size := Lt (x, exObj C t none tb) hx
  rw [e1] at N1
  obtain ⟨F2, N2⟩ := news_upd (pre := (hh.objs.size, emptyDict) :: pre) (f := fun o => { cls := o.cls, dict := some hh.objs.size, data := o.data, slots := o.slots }) (o' := exObj C t (some hh.objs.size) tb) F1 N1
    (fun p hp => by
      rcases List.mem_cons.mp hp with rfl | hp
      · exact Nat.ne_of_gt nx
      · exact a1 p hp) a2 rfl rfl
  refine nd_update (Heap.get?_push_of_some _ hx') (wpAny_pure ?_)
  unfold dictMade
  refine wpAny_bind (wpAny_pure (wpAny_pure ?_))
  dsimp only
  have D := (N2 (hh.objs.size, emptyDict) (.head _)).1
  obtain ⟨F3, N3⟩ := news_upd (pre := []) (f := Obj.putName name (PyData.keyHash w.params name) (.str name (tks + 1)) v) (o' := dictOf [⟨PyData.keyHash w.params name, .str name (tks + 1), v⟩] 1) F2 N2
    (fun _ h => nomatch h) (fun p hp => by
      rcases List.mem_append.mp hp with hp | hp
      · exact Nat.ne_of_lt (ne1 p hp)
      · rcases List.mem_cons.mp hp with rfl | hp
        · exact Nat.ne_of_lt nx
        · exact Nat.ne_of_lt (ne2 p hp)) (by rw [show emptyDict = dictOf [] 0 from rfl, putName_dict]; rfl) rfl
  have D' := (N3 _ (.head _)).1
  unfold storeInDict newKeyGuard
  refine wpAny_bind (wpAny_pure (wpAny_bind ?_))
  unfold nsSet
  refine wpAny_bind (wpAny_bind (wpAny_askSetting (wpAny_pure (wpAny_bind (wpAny_mkText (wpAny_bind (wpAny_loadPart D ?_)))))))
  dsimp only
  rw [aRefKeyMayBeTheName_at, show (!(#[] : Array DictEntry).any (·.key.isStr name) && (#[] : Array DictEntry).any (·.refKey)) = false from by simp]
  refine wpAny_updatePart D ?_
  refine wpAny_bind (wpAny_lookBehind D' (pastItsLine_dict (n := 1) (es := [⟨PyData.keyHash w.params name, .str name (tks + 1), v⟩].toArray) (by rw [List.size_toArray, sizeLine_eq, List.length_singleton]; decide)) ?_)
  refine wpAny_pure ?_
  refine h _ _ F3 ?_ Lt
  rw [e2]
  exact N3

theorem x_set1 {E : Value → Shared → Prop} {t dx : Addr} {tb : Value} {name : Str} {v : Value} {Q : Unit → Shared → Prop} {news' : List (Addr × Obj)} {es es' : List DictEntry} {n n' : Nat} (F : Fr h₀ L s.heap m) (X₀ : K.In h₀) (N : News h₀ L s.heap news)
    (hx : (x, exObj C t (some dx) tb) ∈ news) (hdx : (dx, dictOf es n) ∈ news)
    (hs : findIn K (.ref C) "__setattr__" = some (some (.builtin "object.__setattr__"))) (hp : xOver K C = true) (ht : takerIn K C name = some none) (hl : (getL name es).isSome = true)
    (e : (putL name (PyData.keyHash w.params name) (.str name (s.toks + 1)) v es, putN name es n) = (es', n')) (U : Upd dx (dictOf es n) (dictOf es' n') news news') (hz : es'.length ≤ 1000)
    (h : ∀ h', Fr h₀ L h' m → News h₀ L h' news' → Q () { s with heap := h', toks := s.toks + 2 }) :
    wpAny (model prog w) A (setAttr (.ref x) name v) Q E s := by
  obtain ⟨hh, g, dr, tks, os⟩ := s
  have X := X₀.keeps F.keep
  have I := exAt N hx hdx
  obtain ⟨q1, q2⟩ := Prod.mk.inj e
  refine set_plain X I hs ?_
  refine x_osa_open (s := ⟨hh, g, dr, tks + 1, os⟩) X I hp ht fun b => ?_
  obtain ⟨cd, hc, hd'⟩ := any_some hp
  obtain ⟨ho, hdict⟩ := Bool.and_eq_true_iff.mp hd'
  obtain ⟨pre, post, rfl, rfl, a1, a2⟩ := U.split
  have cls := looks_clsIn (M := model prog w) X hc
  have hx' := I.at_
  refine wpAny_bind (wpAny_pure (wpAny_bind (wpAny_bind (wpAny_loadPart hx' (wpAny_bind (cls.at ?_))))))
  rw [hdict]
  refine wpAny_pure (a := some dx) (wpAny_bind (wpAny_pure (wpAny_bind ?_)))
  obtain ⟨F3, N3⟩ := news_upd (f := Obj.putName name (PyData.keyHash w.params name) (.str name (tks + 1)) v) (o' := dictOf es' n') F N a1 a2 (by rw [putName_dict, q1, q2]) rfl
  have D := (N (dx, dictOf es n) (by simp)).1
  have D' := (N3 (dx, dictOf es' n') (by simp)).1
  unfold nsSet
  refine wpAny_bind (wpAny_bind (wpAny_askSetting (wpAny_pure (wpAny_bind (wpAny_mkText (wpAny_bind (wpAny_loadPart D ?_)))))))
  dsimp only
  have c : (!(es.toArray).any (·.key.isStr name) && (es.toArray).any (·.refKey)) = false := by
    unfold getL at hl
    rw [← Array.any_toList, ← Array.any_toList]
    split at hl
    · rename_i en he
      rw [List.any_eq_true.mpr ⟨en, List.mem_of_find?_eq_some he, List.find?_some he⟩]; rfl
    · split at hl
      · cases hl
      · rename_i z; rw [Bool.not_eq_true] at z; rw [z, Bool.and_false]
  rw [aRefKeyMayBeTheName_at, c]
  refine wpAny_updatePart D ?_
  refine wpAny_bind (wpAny_lookBehind D' (pastItsLine_dict (n := n') (es := es'.toArray) (by rw [List.size_toArray, sizeLine_eq]; omega)) ?_)
  exact wpAny_pure (h _ F3 N3)

end
end
end Mine

namespace Mine
section
open PySem PySem.W PyProof.Rows PySem.Spec PySem.Calls Builtin Builtin.ObjectAttr
set_option maxRecDepth 100000
set_option maxHeartbeats 400000
section
variable {prog : Program} {w : World} {A : Around} {K : Frag} {C x : Addr} {s : Shared} {h₀ : Heap} {L : Addr} {m : Str → Option Value} {news : List (Addr × Obj)} {R : Result → Shared → Prop}
theorem x_open {E : Value → Shared → Prop} {Q : Value → Shared → Prop} {ox : Obj} {od : Option Obj} {name : Str} {tk : Tok} {fill expr : Bool} (X : K.In s.heap) (I : InstAt s.heap x ox C od)
    (hga : findIn K (.ref C) "__getattribute__" = some (some (.builtin "BaseException.__getattribute__"))) (hgh : findIn K (.ref C) "__getattr__" = some none) (hb : mroIn K C (.type "BaseException") = some true)
    (h : wpAny (model prog w) A.in1 (Builtin.«object.__getattribute__» ⟨[.ref x, .str name tk], []⟩) (fun fin s' => match fin with | .done (.ret v) => wpAny (model prog w) A (handedOut v) Q E s' | _ => False) (fun _ _ => False) s) :
    wpAny (model prog w) A (getAttrBy (.ref x) (.str name tk) fill expr) Q E s := by
  obtain ⟨hp, g, d, t, os⟩ := s
  have L0 := I.type (M := model prog w)
  have L1 := looks_findIn (M := model prog w) X hga
  have L2 := looks_findIn (M := model prog w) X hgh
  have L4 : Looks (model prog w) hp (isInstance (.ref x) (.type "BaseException")) true := L0.andThen (looks_mroIn X hb)
  have FX := PySem.F.attr_Exception
  unfold getAttrBy
  refine wpAny_holding (wpAny_bind (L0.at (wpAny_bind (L1.at ?_))))
  show wpAny _ _ (getAttrByItsOwn (.ref x) (.str name tk) (.ref C) (.builtin "BaseException.__getattribute__") fill expr) _ _ _
  unfold getAttrByItsOwn hookBefore callGetattribute boundAndCalled
  refine wpAny_bind (L2.at ?_)
  have hx0 : ¬ ((expr && onTheHeap (Value.builtin "BaseException.__getattribute__")) = true) := by cases expr <;> simp [onTheHeap]
  refine wpAny_bind (wpAny_attempt (wpAny_holding ?_))
  rw [if_neg hx0]
  refine wpAny_bind (wpAny_of_eq (FX.ga.bind _) ?_)
  refine wpAny_call (codeAny_call_builtin FX.ga.plain F.entry_bexc_ga (@check_slot (model prog w) _ _ ⟨hp, g, d, t, os⟩ "BaseException.__getattribute__" "BaseException" "__getattribute__" (.ref x) [.str name tk] [] _ (by decide +kernel) (by decide +kernel) L4 (F.args_bexc_ga _ _) ?_))
  refine wpAny_mono h (fun fin s' z => ?_) fun _ _ z => z.elim
  rcases fin with (_ | _ | _ | _) | _ <;> first | exact z | exact z.elim

theorem x_get {E : Value → Shared → Prop} {Q : Value → Shared → Prop} {ox : Obj} {od : Option Obj} {name : Str} {v : Value} {expr : Bool} (X : K.In s.heap) (I : InstAt s.heap x ox C od)
    (hga : findIn K (.ref C) "__getattribute__" = some (some (.builtin "BaseException.__getattribute__"))) (hgh : findIn K (.ref C) "__getattr__" = some none) (hb : mroIn K C (.type "BaseException") = some true)
    (hf : findObj K C od name = some (.value v)) (hh : handedIn v = true) (h : Q v { s with toks := s.toks + 1 }) : wpAny (model prog w) A (getAttr (.ref x) name expr) Q E s := by
  obtain ⟨hp, g, d, t, os⟩ := s
  have L0 := I.type (M := model prog w)
  have L3 := looks_find (M := model prog w) X I hf
  unfold getAttr
  refine wpAny_bind (wpAny_mkText (x_open (s := ⟨hp, g, d, t + 1, os⟩) X I hga hgh hb ?_))
  unfold Builtin.«object.__getattribute__»
  repeat lk
  show wpAny _ _ (handedOut v) _ _ _
  rw [handedOut_of hh]; exact wpAny_pure h

theorem x_class {E : Value → Shared → Prop} {ox : Obj} {od : Option Obj} {Q : Option Value → Shared → Prop} (X : K.In s.heap) (I : InstAt s.heap x ox C od)
    (hga : findIn K (.ref C) "__getattribute__" = some (some (.builtin "BaseException.__getattribute__"))) (hgh : findIn K (.ref C) "__getattr__" = some none) (hb : mroIn K C (.type "BaseException") = some true)
    (hf : findObj K C od "__class__" = some (.bind (.builtin "getset_descriptor.__get__") (.builtin "object.__class__"))) (hm : mroIn K C (.type "object") = some true) (h : Q (some (.ref C)) { s with toks := s.toks + 1 }) :
    wpAny (model prog w) A (getAttr? (.ref x) "__class__") Q E s := by
  obtain ⟨hp, g, d, t, os⟩ := s
  have L0 := I.type (M := model prog w)
  have L3 := looks_find (M := model prog w) X I hf
  unfold getAttr? getAttrBy?
  refine wpAny_bind (wpAny_mkText (wpAny_bind (wpAny_attempt (x_open (s := ⟨hp, g, d, t + 1, os⟩) X I hga hgh hb ?_))))
  unfold Builtin.«object.__getattribute__»
  repeat (first | with_reducible refine wpAny_call ?_ | lk)
  refine class_get (ox := ox) (od := od) X I hm ?_
  refine wpAny_pure ?_
  exact handed_on rfl (wpAny_pure h)

theorem x_isT {M : Model} {h' : Heap} {D : Addr} (X' : K.In h') (e1 : (clsIn K D).isSome = true) : Looks M h' (isType (.ref D)) true := by
  unfold clsIn at e1
  split at e1
  · rename_i c' d' cd' sl' ho
    intro A' Q' E' s' k q
    unfold isType loadHead
    exact wpAny_bind (wpAny_loadPart (k _ _ (X' _ _ ho)) (wpAny_pure q))
  · cases e1

theorem x_nested {E : Value → Shared → Prop} {ox : Obj} {od : Option Obj} {D : Addr} {dep : Int} {tk : Tok} {Q : Fin → Shared → Prop} (X : K.In s.heap) (I : InstAt s.heap x ox C od) (e : kin_not K C D = true) (hC : (clsIn K C).isSome = true)
    (hga : findIn K (.ref C) "__getattribute__" = some (some (.builtin "BaseException.__getattribute__"))) (hgh : findIn K (.ref C) "__getattr__" = some none) (hb : mroIn K C (.type "BaseException") = some true)
    (hf : findObj K C od "__class__" = some (.bind (.builtin "getset_descriptor.__get__") (.builtin "object.__class__"))) (hm : mroIn K C (.type "object") = some true) (h : Q (.done (.ret (.bool false))) { s with toks := s.toks + 1 }) :
    wpAny (model prog w) A (Builtin.«isinstance.nested» ⟨[.ref x, .ref D, .int dep tk], []⟩) Q E s := by
  unfold kin_not at e
  rw [Bool.and_eq_true, Bool.and_eq_true, Bool.and_eq_true] at e
  obtain ⟨⟨⟨e0, e1⟩, e2⟩, e3⟩ := e
  have hne : (Value.ref C == Value.ref D) = false := Bool.eq_false_iff.mpr fun q => of_decide_eq_true e0 (Value.ref.inj (beq_iff_eq.mp q))
  obtain ⟨h0, g, d, tt, os⟩ := s
  have hty := looks_typeIn (M := model prog w) X (beq_iff_eq.mp e2)
  have his := x_isT (M := model prog w) X e1
  have hisC := x_isT (M := model prog w) X hC
  have hsub := looks_subIn (M := model prog w) X (beq_iff_eq.mp e3)
  have L0 := I.type (M := model prog w)
  have LI : Looks (model prog w) h0 (isInstance (.ref x) (.ref D)) false := L0.andThen hsub
  unfold Builtin.«isinstance.nested»
  refine wpAny_bind (L0.at ?_)
  rw [if_neg (fun q => by rw [hne] at q; exact Bool.noConfusion q)]
  refine wpAny_bind (hty.at ?_)
  rw [if_pos (by decide)]
  k_delta "plainIsInstance"
  refine wpAny_bind (wpAny_bind (his.at ?_))
  simp only [Bool.not_true, Bool.false_eq_true, if_false]
  refine wpAny_bind (LI.at ?_)
  simp only [Bool.false_eq_true, if_false]
  refine wpAny_bind (x_class X I hga hgh hb hf hm ?_)
  refine wpAny_bind (hisC.at ?_)
  simp only [Bool.not_true, Bool.false_eq_true, if_false]
  refine wpAny_bind (wpAny_rule ?_)
  refine hsub.at ?_
  first
    | exact wpAny_pure h
    | exact wpAny_pure (wpAny_pure h)
    | exact wpAny_bind (wpAny_pure (wpAny_pure h))

theorem x_notinst {E : Value → Shared → Prop} {ox : Obj} {od : Option Obj} {D : Addr} {Q : Value → Shared → Prop} (X : K.In s.heap) (I : InstAt s.heap x ox C od) (e : kin_not K C D = true) (hC : (clsIn K C).isSome = true)
    (hga : findIn K (.ref C) "__getattribute__" = some (some (.builtin "BaseException.__getattribute__"))) (hgh : findIn K (.ref C) "__getattr__" = some none) (hb : mroIn K C (.type "BaseException") = some true)
    (hf : findObj K C od "__class__" = some (.bind (.builtin "getset_descriptor.__get__") (.builtin "object.__class__"))) (hm : mroIn K C (.type "object") = some true) (h : Q (.bool false) { s with toks := s.toks + 1 }) :
    wpAny (model prog w) A (call (.builtin "isinstance") [.ref x, .ref D]) Q E s :=
  call_isinstance (S := fun _ R s => (K.In s.heap ∧ InstAt s.heap x ox C od) ∧ R (.ok (.ret (.bool false))) { s with toks := s.toks + 1 })
    (fun _ _ _ _ _ hs => isinstance_outer (x_nested hs.1.1 hs.1.2 e hC hga hgh hb hf hm hs.2) (by intro q; cases q)) ⟨⟨X, I⟩, h⟩

theorem x_strOf {E : Value → Shared → Prop} {t : Addr} {d : Option Addr} {tb : Value} {msg : Str} {tk : Tok} {Q : Value → Shared → Prop} (hu : A.units < cLine) (X : K.In s.heap) (hx : s.heap.get? x = some (exObj C t d tb)) (ht : s.heap.get? t = some (tupObj [.str msg tk]))
    (hfs : findIn K (.ref C) "__str__" = some (some (.builtin "BaseException.__str__"))) (hb : mroIn K C (.type "BaseException") = some true) (hq : Q (.str msg tk) s) : wpAny (model prog w) A (PySem.Builtin.Str.strOf (.ref x)) Q E s := by
  obtain ⟨hp, g, dr, tks, os⟩ := s
  have L0 : Looks (model prog w) hp (typeOf (.ref x)) (.ref C) := (Looks.ld hx).andThen .now
  have L1 := looks_findIn (M := model prog w) X hfs
  have L4 : Looks (model prog w) hp (isInstance (.ref x) (.type "BaseException")) true := L0.andThen (looks_mroIn X hb)
  have L5 : Looks (model prog w) hp (bindSpecial (.builtin "BaseException.__str__") (.ref x)) (.builtin "BaseException.__str__", [.ref x]) := Looks.of_pure (PySem.F.excStr_Exception.str.bind _)
  have f1 := isSubtype_str_str
  have f0 : (#[.ref t, tb, .none, .none, .bool false, .none] : Array Value)[0]? = some (.ref t) := rfl
  have go : ∀ {Q' E' A'}, Q' (.str msg tk) ⟨hp, g, dr, tks, os⟩ → wpAny (model prog w) A' (call (.builtin "BaseException.__str__") ([.ref x] ++ [])) Q' E' ⟨hp, g, dr, tks, os⟩ := by
    intro Q' E' A' hq'
    refine wpAny_call (codeAny_call_builtin PySem.F.excStr_Exception.str.plain F.entry_bexc_str (@check_slot (model prog w) _ _ ⟨hp, g, dr, tks, os⟩ "BaseException.__str__" "BaseException" "__str__" (.ref x) [] [] _ (by decide +kernel) (by decide +kernel) L4 (F.args_bexc_str _) ?_))
    unfold Builtin.«BaseException.__str__»
    repeat lk
    exact hq'
  unfold PySem.Builtin.Str.strOf callSpecial? specialOf
  repeat (first | with_reducible refine wpAny_cRoomFor hu ?_ | with_reducible refine go ?_ | lk)
  exact hq

theorem x_str {E : Value → Shared → Prop} {t : Addr} {d : Option Addr} {tb : Value} {msg : Str} {tk : Tok} {Q : Value → Shared → Prop} (hu : A.units + 2 < cLine) (X : K.In s.heap) (hx : s.heap.get? x = some (exObj C t d tb)) (ht : s.heap.get? t = some (tupObj [.str msg tk]))
    (hfs : findIn K (.ref C) "__str__" = some (some (.builtin "BaseException.__str__"))) (hb : mroIn K C (.type "BaseException") = some true) (h : Q (.str msg tk) s) : wpAny (model prog w) A (call (.type "str") [.ref x]) Q E s :=
  PySem.callType_new F.called_str (by decide) (F.typeCall_str_1 _) (F.newCall_str_1 _) (fun obj => F.args_object_init_2 obj _) F.entry_str_new
    (PySem.meets_str_new (S := fun A' R s' => A'.units + 1 < cLine ∧ K.In s'.heap ∧ s'.heap.get? x = some (exObj C t d tb) ∧ s'.heap.get? t = some (tupObj [.str msg tk]) ∧ R (.ok (.ret (.str msg tk))) s')
      fun _ _ A' _ _ hq => x_strOf (A := A'.in1) hq.1 hq.2.1 hq.2.2.1 hq.2.2.2.1 hfs hb hq.2.2.2.2)
    ⟨(show A.units + 1 + 1 < cLine from hu), X, hx, ht, typeIs_str _ _ _, h⟩
end
end
end Mine

namespace Mine
section
open PySem PySem.W PyProof.Rows PySem.Spec PySem.Calls Builtin Builtin.ObjectAttr
set_option maxRecDepth 100000
set_option maxHeartbeats 1000000

abbrev mwObj (x : Addr) : Obj := { cls := .type "method-wrapper", data := .fields #[.builtin "Exception.__init__", .ref x] }
theorem slot_wd : Slot "wrapper_descriptor" "__get__" "wrapper_descriptor.__get__" :=
  .of (owner := "wrapper_descriptor") (n := "__get__") (by rw [typeLookup_type, builtinLookup_eq_fast]; kernel_rfl) (by decide +kernel) (by decide +kernel) (by decide +kernel)
    (by first | exact .inl (by decide +kernel) | exact .inr (by decide +kernel)) (by rw [isSubtype_type]; kernel_rfl)
theorem entry_wd : entryFor table "wrapper_descriptor.__get__" = some Builtin.«wrapper_descriptor.__get__» := entryFor_of_tree (by kernel_rfl)
theorem args_wd (a b c : Value) : argsOk "wrapper_descriptor.__get__" ⟨[a, b, c], []⟩ := by unfold argsOk; kernel_rfl
theorem type_init : typeOf (.builtin "Exception.__init__") = pure (.type "wrapper_descriptor") := by show builtinType _ = _; rw [builtinType_eq_fast]; kernel_rfl

theorem own_init : (".".intercalate ("Exception.__init__".cutAt '.').dropLast) = "Exception" := by
  have e0 : "Exception.__init__".cutAt '.' = ["Exception", "__init__"] := by first | rfl | decide +kernel
  rw [e0]; decide +kernel

section
variable {prog : Program} {w : World} {M : Model} {A : Around} {E : Value → Shared → Prop} {h : Heap} {g : Array GenState} {d : Drawn} {t : Nat} {os : OsState}
theorem wd_get {x C : Addr} {Q : Value → Shared → Prop} (hT : Looks (model prog w) h (typeOf (.ref x)) (.ref C)) (hx : Looks (model prog w) h (isSubtype (.ref C) (.type "Exception")) true) (hq : Q (.ref h.objs.size) ⟨h.push (mwObj x), g, d, t, os⟩) :
    wpAny (model prog w) A (call (.builtin "wrapper_descriptor.__get__") [.builtin "Exception.__init__", .ref x, .ref C]) Q E ⟨h, g, d, t, os⟩ := by
  have hx' : Looks (model prog w) h (isSubtype (.ref C) (.type (".".intercalate ("Exception.__init__".cutAt '.').dropLast))) true := by rw [own_init]; exact hx
  refine wpAny_call (codeAny_call_builtin slot_wd.plain entry_wd (slot_wd.check _ _ _ _ _ _ _ _ type_init (args_wd _ _ _) ?_))
  unfold Builtin.«wrapper_descriptor.__get__»
  repeat lk
  exact hq

theorem x_super_ga {so D x C : Addr} {l₀ l : List Value} {K : Frag} {name : Str} {tk : Tok} {Q : Fin → Shared → Prop}
    (hso : h.get? so = some (ks_superObj D x C)) (hno : Looks (model prog w) h (opaqueClassAbove (.ref C)) none)
    (hC : Looks (model prog w) h (mroOf (.ref C)) l₀) (hl : (l₀.dropWhile (· != .ref D)).drop 1 = l) (X : K.In h)
    (hf : alongIn K name l = some (some (.builtin "Exception.__init__"))) (hT : Looks (model prog w) h (typeOf (.ref x)) (.ref C)) (hx : Looks (model prog w) h (isSubtype (.ref C) (.type "Exception")) true) (hxC : x ≠ C) (hn : (name == ("__class__" : Str)) = false)
    (hq : Q (.done (.ret (.ref h.objs.size))) ⟨h.push (mwObj x), g, d, t, os⟩) :
    wpAny (model prog w) A (Builtin.«super.__getattribute__» ⟨[.ref so, .str name tk], []⟩) Q E ⟨h, g, d, t, os⟩ := by
  have hlk := slot_wd.lookup
  have hne : (Value.ref x == Value.ref C) = false := by simp [hxC]
  have hty := type_init
  have hdt : (ks_superObj D x C).data = .fields #[.ref D, .ref x, .ref C] := rfl
  have f0 : (#[.ref D, .ref x, .ref C] : Array Value)[0]? = some (.ref D) := rfl
  have f1 : (#[.ref D, .ref x, .ref C] : Array Value)[1]? = some (.ref x) := rfl
  have f2 : (#[.ref D, .ref x, .ref C] : Array Value)[2]? = some (.ref C) := rfl
  unfold Builtin.«super.__getattribute__»
  repeat (first
    | (with_reducible refine wpAny_field hso hdt f0 ?_) | (with_reducible refine wpAny_field hso hdt f1 ?_) | (with_reducible refine wpAny_field hso hdt f2 ?_)
    | (with_reducible refine ks_wpAny_notOpaque hno ?_)
    | (with_reducible refine Looks.at hC ?_; rw [hl])
    | (refine ks_forIn_along X (fun _ _ => rfl) rfl ?_ hf)
    | (with_reducible refine wpAny_of_eq hty ?_)
    | (with_reducible refine wpAny_of_eq hlk ?_)
    | (with_reducible refine wd_get hT hx ?_)
    | (simp only [hn, hne, Bool.or_false, Bool.false_eq_true, if_false])
    | wp_step
    | dsimp only)
  all_goals exact hq

theorem x_getMethod_super {so D x C : Addr} {l₀ l : List Value} {K : Frag} {name : Str} {pl : Sem Bool} {Q : Value × List Value → Shared → Prop}
    (hso : h.get? so = some (ks_superObj D x C)) (hno : Looks (model prog w) h (opaqueClassAbove (.ref C)) none)
    (hC : Looks (model prog w) h (mroOf (.ref C)) l₀) (hl : (l₀.dropWhile (· != .ref D)).drop 1 = l) (X : K.In h)
    (hf : alongIn K name l = some (some (.builtin "Exception.__init__"))) (hxT : Looks (model prog w) h (typeOf (.ref x)) (.ref C)) (hx : Looks (model prog w) h (isSubtype (.ref C) (.type "Exception")) true) (hxC : x ≠ C) (hn : (name == ("__class__" : Str)) = false)
    (hq : Q (.ref h.objs.size, []) ⟨h.push (mwObj x), g, d, t + 1, os⟩) :
    wpAny (model prog w) A (getMethod (.ref so) name pl) Q E ⟨h, g, d, t, os⟩ := by
  have hlk := F.ks_slot_super_ga.lookup
  have hcan := F.ks_canon_super_ga
  have hT : ∀ t', (⟨h, g, d, t', os⟩ : Shared).TypeIs (.ref so) "super" := fun _ => ⟨_, hso, rfl⟩
  unfold getMethod
  refine wpAny_bind (wpAny_specialOf (hT _) hlk ?_)
  show wpAny _ _ (if (Manifest.canonical "super.__getattribute__" != "object.__getattribute__") = true then _ else _) _ _ _
  rw [if_pos hcan]
  unfold getAttr getAttrBy
  refine wpAny_bind (wpAny_bind (wpAny_mkText (wpAny_holding (wpAny_bind (wpAny_typeOf (hT _) (wpAny_bind (wpAny_of_eq hlk ?_)))))))
  show wpAny _ _ (getAttrByItsOwn (.ref so) (.str name t) (.type "super") (.builtin "super.__getattribute__") true false) _ _ _
  unfold getAttrByItsOwn hookBefore callGetattribute boundAndCalled
  refine wpAny_bind (wpAny_of_eq (show (if onTheHeap (.type "super") then typeLookup (.type "super") "__getattr__" else pure none) = pure none from rfl) ?_)
  refine wpAny_bind (wpAny_attempt (wpAny_holding ?_))
  show wpAny _ _ (bindSpecial (.builtin "super.__getattribute__") (.ref so) >>= _) _ _ _
  refine wpAny_bind (wpAny_of_eq (F.ks_slot_super_ga.bind _) ?_)
  refine wpAny_mono (Q := fun v s' => v = .ref h.objs.size ∧ s' = ⟨h.push (mwObj x), g, d, t + 1, os⟩) (E := fun _ _ => False)
    (wpAny_call_entry F.ks_slot_super_ga (hT _) F.ks_entry_super_ga (x_super_ga hso hno hC hl X hf hxT hx hxC hn ⟨_, rfl, rfl, rfl⟩) (F.ks_gaArgs_super _ _)) (fun v s' hv => ?_) fun _ _ z => z.elim
  obtain ⟨rfl, rfl⟩ := hv
  exact wpAny_pure (wpAny_pure hq)
end

section
variable {prog : Program} {w : World} {A : Around} {E : Value → Shared → Prop} {s : Shared} {h₀ : Heap} {L : Addr} {m : Str → Option Value} {news : List (Addr × Obj)} {K : Frag} {x C D so : Addr} {ox : Obj} {odx : Option Obj}
theorem x_method {name : Str} {pl : Sem Bool} {Q : Value × List Value → Shared → Prop} (F : Fr h₀ L s.heap m) (X₀ : K.In h₀) (N : News h₀ L s.heap news) (hso : (so, ks_superObj D x C) ∈ news) (I : InstAt s.heap x ox C odx) (ho : nsIn K cStatics "thirdparty.any" = some none)
    (hm : ks_superIn K C D name = some (some (.builtin "Exception.__init__"))) (he : mroIn K C (.type "Exception") = some true) (hn : (name == ("__class__" : Str)) = false)
    (h : ∀ q h', Fr h₀ L h' m → News h₀ L h' ((q, mwObj x) :: news) → (∀ p ∈ news, p.1 < q) → Q (.ref q, []) { s with heap := h', toks := s.toks + 1 }) : wpAny (model prog w) A (getMethod (.ref so) name pl) Q E s := by
  have X : K.In s.heap := X₀.keeps F.keep
  obtain ⟨hh, g, d, t, os⟩ := s
  cases hc : clsIn K C with
  | none => unfold ks_superIn at hm; rw [hc] at hm; cases hm
  | some cd =>
    unfold ks_superIn at hm
    rw [hc] at hm
    refine x_getMethod_super (N _ hso).1 (looks_opaque X ho) (l₀ := cd.mro) ?_ rfl X hm I.type (looks_mroIn X he) (ks_ne X I hc) hn ?_
    · exact fun A Q E s k q => wpAny_bind ((looks_clsIn X hc) A _ E s k (wpAny_pure q))
    · obtain ⟨F', N', l'⟩ := ks_newsPush (s := ⟨hh, g, d, t, os⟩) (o := mwObj x) F N rfl (Heap.get?_push_at rfl rfl) (fun b o e => Heap.get?_push_of_some _ e)
      exact h _ _ F' N' l'

theorem news_of {h₀ h : Heap} {L : Addr} {l l' : List (Addr × Obj)} (N : News h₀ L h l) (hs : ∀ p ∈ l', p ∈ l) : News h₀ L h l' := fun p hp => N p (hs p hp)
theorem allLt_ne {d b : Addr} : ∀ {l : List (Addr × Obj)}, AllLt d l → d ≤ b → ∀ p ∈ l, p.1 ≠ b
  | [], _, _, _, h => nomatch h
  | q :: r, ⟨h1, h2⟩, hb, p, hp => by
    rcases List.mem_cons.mp hp with rfl | hp
    · exact Nat.ne_of_lt (Nat.lt_of_lt_of_le h1 hb)
    · exact allLt_ne h2 hb p hp
theorem memLt_ne {d b : Addr} {l : List (Addr × Obj)} (h : ∀ p ∈ l, p.1 < d) (hb : d ≤ b) : ∀ p ∈ l, p.1 ≠ b := fun p hp => Nat.ne_of_lt (Nat.lt_of_lt_of_le (h p hp) hb)
theorem leN {a b : Nat} (h : a ≤ b) : @LE.le Addr _ a b := h
def XMw (v : Value) (x : Addr) (h : Heap) : Prop := ∃ q, v = .ref q ∧ h.get? q = some (mwObj x)
theorem xMw_of {hh : Heap} {q : Addr} (N : News h₀ L hh news) (hq : (q, mwObj x) ∈ news) : XMw (.ref q) x hh := ⟨q, rfl, (N _ hq).1⟩
theorem x_callWith_mw {M : Model} {env : Env} {pos : Pos} {first : List Value} {q : Addr} {e : Expr} {rest : List Expr} {Q : Value → Shared → Prop} (_N : News h₀ L s.heap news) (_q : (q, mwObj x) ∈ news)
    (h : wpAny M A (spliced (backTo pos (starEach (e :: rest) env))) (fun vs s₁ => XMw (.ref q) x s₁.heap ∧ wpAny M A (call (.ref q) (first ++ vs)) Q E s₁) E s)
    (he : starEach (e :: rest) env = (false, eval e env) :: starEach rest env := by rfl) (hplain : (backTo pos (starEach rest env)).any (·.1) = false := by rfl) :
    wpAny M A (callWith pos (.ref q) first (backTo pos (starEach (e :: rest) env)) []) Q E s := by
  rw [he] at h ⊢
  refine callWith_of (P := fun h => XMw (.ref q) x h) (by show ((false || (backTo pos (starEach rest env)).any (·.1)) || false) = false; rw [hplain]; rfl) (fun h' hP => ⟨.machine, .inr (.inl rfl), ?_⟩) (evalArgs_plain h)
  obtain ⟨q', e', hq'⟩ := hP
  cases e'
  exact (Looks.ld (part := none) hq').andThen .now

theorem x_call_mw {q t : Addr} {d : Option Addr} {tb : Value} {vs : List Value} {Q : Value → Shared → Prop} {news' : Addr → List (Addr × Obj)} (F : Fr h₀ L s.heap m) (X₀ : K.In h₀) (N : News h₀ L s.heap news) (hq : (q, mwObj x) ∈ news) (hx : (x, exObj C t d tb) ∈ news)
    (he : mroIn K C (.type "Exception") = some true) (hz : vs.length ≤ 1000) (U : ∀ t', Upd x (exObj C t d tb) (exObj C t' d tb) news (news' t'))
    (h : ∀ t' h', Fr h₀ L h' m → News h₀ L h' ((t', tupObj vs) :: news' t') → (∀ p ∈ news, p.1 < t') → Q .none { s with heap := h' }) :
    wpAny (model prog w) A (call (.ref q) vs) Q E s := by
  have X : K.In s.heap := X₀.keeps F.keep
  obtain ⟨hh, g, dr, tk, os⟩ := s
  have hqq := (N _ hq).1
  have hxx := (N _ hx).1
  have hT : Looks (model prog w) hh (typeOf (.ref x)) (.ref C) := (Looks.ld hxx).andThen .now
  have hE : Looks (model prog w) hh (isInstance (.ref x) (.type "Exception")) true := hT.andThen (looks_mroIn X he)
  refine wpAny_call (codeAny_of_tree ?_)
  show wpAny _ _ (callAny (.ref q) _) _ _ _
  obtain ⟨cd, hc, _⟩ := Option.bind_eq_some_iff.mp he
  have hD := looks_clsIn (M := model prog w) X hc
  unfold callAny
  repeat (first | with_reducible refine wpAny_of_eq (check_star_args _ _ _ _ _ _) ?_ | lk)
  refine ⟨Code.quiet_builtin _ (by decide +kernel), codeAny_builtin PySem.F.excBase_Exception.initEntry ?_⟩
  show wpAny _ _ (Builtin.«BaseException.__init__» ⟨.ref x :: vs, []⟩) _ _ _
  unfold Builtin.«BaseException.__init__»
  repeat lk
  rw [if_neg (by simp only [List.size_toArray, sizeLine_eq]; omega)]
  have hx1 := Heap.get?_push_of_some (tupObj vs) hxx
  repeat lk
  refine nd_update hx1 ?_
  repeat lk
  obtain ⟨pre, post, e1, e2, a1, a2⟩ := (U hh.objs.size).split
  have F1 := F.push (tupObj vs)
  have N1 := N.push F (tupObj vs)
  rw [e1] at N1
  have nx : x < hh.objs.size := Heap.lt_size hxx
  obtain ⟨F2, N2⟩ := news_upd (pre := (hh.objs.size, tupObj vs) :: pre) (f := Obj.mapFields (·.setIfInBounds 0 (.ref hh.objs.size))) (o' := exObj C hh.objs.size d tb) F1 N1
    (fun p hp => by
      rcases List.mem_cons.mp hp with rfl | hp
      · exact Nat.ne_of_gt nx
      · exact a1 p hp) a2 rfl rfl
  refine h _ _ F2 ?_ (fun p hp => Heap.lt_size (N p hp).1)
  rw [e2]
  exact N2
end
end
end Mine

namespace Mine
section
open PySem PySem.W PyProof.Rows PySem.Spec PySem.Calls
set_option maxRecDepth 100000
set_option maxHeartbeats 1000000

structure XFly (G : Heap) (fs : List Addr) (x C t : Addr) (d : Option Addr) (T : Addr) (fl : Value) (h : Heap) : Prop where
  stays : ∀ b o, G.get? b = some o → b ∉ fs → h.get? b = some o
  up : ∀ b o, G.get? b = some o → ∃ sl, h.get? b = some { o with slots := sl }
  ex : h.get? x = some (exObj C t d (.ref T))
  tb : ∃ oT ts, h.get? T = some oT ∧ oT.data = .fields ts ∧ ts[3]? = some fl
  newT : G.get? T = none
  ne : T ≠ x

section
variable {M : Model} {A : Around} {E : Value → Shared → Prop} {s : Shared} {G base : Heap} {x C t T L : Addr} {d : Option Addr} {fl : Value} {env : Env} {outer : List Env}

theorem xf_note {Q : Unit → Shared → Prop} (hfr : A.frames = some (env :: outer)) (hl : s.heap.FunFrames base (env :: outer)) (hf : env.frame = some L) (hx : s.heap.get? x = some (exObj C t d .none))
    (hG : ∀ b o, G.get? b = some o → s.heap.get? b = some o) (hGx : G.get? x = none)
    (h : ∀ h' T, XFly G ((env :: outer).filterMap (·.frame)) x C t d T (rawInt L) h' → Q () { s with heap := h' }) : wpAny M A (noteFrame (.ref x) env) Q E s := by
  have hd : (exObj C t d .none).data = .fields #[.ref t, .none, .none, .none, .bool false, .none] := rfl
  have h1 : (#[.ref t, .none, .none, .none, .bool false, .none] : Array Value)[1]? = some .none := rfl
  have hene : x ∉ (env :: outer).filterMap (·.frame) := fun hm => by
    obtain ⟨_, o, ho, hnf⟩ := hl.mem hm
    rw [hx] at ho; injection ho with ho; subst ho; exact hnf _ hd
  unfold noteFrame
  simp only [hf]
  refine wpAny_bind (wpAny_field hx hd h1 ?_)
  rw [if_neg (by decide)]
  refine wpAny_bind (wpAny_frameOf_fun hfr hl hf fun h₁ hs₁ => ?_)
  refine wpAny_bind (wpAny_entryPlaceOf fun pl hpl => ?_)
  unfold EntryCells.newEntry newFields
  refine wpAny_bind (wpAny_newObj_type ?_ (hpl.sizeOk5 _ _ _ _ _))
  have he₁ : h₁.get? x = some (exObj C t d .none) := (hs₁.2.1 x hene).trans hx
  have he₂ := Heap.get?_push_of_some (h := h₁) { cls := .type "traceback", dict := none, data := .fields ([.none, .ref L, .none, rawInt L, .none] ++ (if pl.isEmpty then List.replicate 6 Value.none else pl)).toArray } he₁
  refine wpAny_setField he₂ hd (by simp) (h _ h₁.objs.size ?_)
  have hTe : h₁.objs.size ≠ x := Nat.ne_of_gt (Heap.lt_size he₁)
  have hd₃ := Obj.data_mapFields hd (·.setIfInBounds 1 (Value.ref h₁.objs.size))
  have he₃ := Heap.get?_update_self (Obj.mapFields (·.setIfInBounds 1 (Value.ref h₁.objs.size))) he₂ (Obj.isFreed_of_fields hd₃)
  have hT₃ := (Heap.get?_update_other (h₁.push { cls := .type "traceback", dict := none, data := .fields ([.none, .ref L, .none, rawInt L, .none] ++ (if pl.isEmpty then List.replicate 6 Value.none else pl)).toArray })
    (Obj.mapFields (·.setIfInBounds 1 (Value.ref h₁.objs.size))) (Ne.symm hTe)).trans (Heap.get?_push_size h₁ rfl)
  have keep : ∀ b o, b ≠ x → h₁.get? b = some o →
      ((h₁.push { cls := .type "traceback", dict := none, data := .fields ([.none, .ref L, .none, rawInt L, .none] ++ (if pl.isEmpty then List.replicate 6 Value.none else pl)).toArray }).update x (Obj.mapFields (·.setIfInBounds 1 (Value.ref h₁.objs.size)))).get? b = some o :=
    fun b o hbe hb => by
      rw [Heap.get?_update_other _ _ (Ne.symm hbe)]
      exact Heap.get?_push_of_some _ hb
  have nx : ∀ b o, G.get? b = some o → b ≠ x := fun b o e q => by rw [q, hGx] at e; cases e
  refine ⟨fun b o e hb => keep b o (nx b o e) ((hs₁.2.1 b hb).trans (hG b o e)), fun b o e => ?_, ?_, ⟨_, _, hT₃, rfl, ?_⟩, ?_, hTe⟩
  · obtain ⟨sl, hs⟩ := hs₁.2.2 b o (hG b o e)
    exact ⟨sl, keep b _ (nx b o e) hs⟩
  · exact he₃
  · first | (simp; done) | (rcases hpl with rfl | ⟨_, _, _, _, _, _, _, rfl⟩ <;> simp)
  · cases q : G.get? h₁.objs.size with
    | none => rfl
    | some o =>
      obtain ⟨sl, hs⟩ := hs₁.2.2 _ o (hG _ o q)
      exact absurd (Heap.lt_size hs) (Nat.lt_irrefl _)

theorem xf_flight {fs : List Addr} {Q : Unit → Shared → Prop} (X : XFly G fs x C t d T fl s.heap) (h : ∀ h', XFly G fs x C t d T .none h' → Q () { s with heap := h' }) : wpAny M A (setFlight (.ref x) none) Q E s := by
  obtain ⟨k1, k2, k3, ⟨oT, ts, hT, hdT, h3⟩, k5, k6⟩ := X
  have hsz3 : 3 < ts.size := (Array.getElem?_eq_some_iff.mp h3).1
  have h1 : (#[.ref t, .ref T, .none, .none, .bool false, .none] : Array Value)[1]? = some (.ref T) := rfl
  have other : ∀ b, b ≠ T → (s.heap.update T (Obj.mapFields (·.setIfInBounds 3 ((none : Option Addr).elim Value.none fun f => rawInt f)))).get? b = s.heap.get? b :=
    fun b hb => Heap.get?_update_other _ _ (Ne.symm hb)
  have nT : ∀ b o, G.get? b = some o → b ≠ T := fun b o e q => by rw [q, k5] at e; cases e
  unfold setFlight
  refine wpAny_bind (wpAny_field k3 rfl h1 ?_)
  rw [if_pos (show (Value.ref T != Value.none) = true from by simp)]
  refine wpAny_setField hT hdT hsz3 (h _ ⟨fun b o e hb => (other b (nT b o e)).trans (k1 b o e hb), fun b o e => ?_, (other x (Ne.symm k6)).trans k3, ?_, k5, k6⟩)
  · obtain ⟨sl, hs⟩ := k2 b o e
    exact ⟨sl, (other b (nT b o e)).trans hs⟩
  · exact ⟨_, _, Heap.get?_update_self _ hT (Obj.isFreed_of_fields (Obj.data_mapFields hdT _)), Obj.data_mapFields hdT _, by simp [hsz3]⟩
end

section
variable {prog : Program} {w : World} {A : Around} {E : Value → Shared → Prop} {s : Shared} {K : Frag} {h₀ : Heap} {L a x C D : Addr} {m : Str → Option Value} {name : Str} {scope : Scope} {cd : Value} {news : List (Addr × Obj)}

theorem x_matches {t : Addr} {d : Option Addr} {tb : Value} {Q : Bool → Shared → Prop} (X : K.In s.heap) (hx : s.heap.get? x = some (exObj C t d tb)) (hD : (clsIn K D).isSome = true) (hDT : typeIn K (.ref D) = some (.type "type")) (hDb : mroIn K D (.type "BaseException") = some true) (hs : mroIn K C (.ref D) = some true)
    (hq : Q true s) : wpAny (model prog w) A (excMatches (.ref x) (.ref D)) Q E s := by
  obtain ⟨hp, g, dr, tk, os⟩ := s
  have L0 : Looks (model prog w) hp (typeOf (.ref x)) (.ref C) := (Looks.ld hx).andThen .now
  have L1 := looks_typeIn (M := model prog w) X hDT
  have L2 : Looks (model prog w) hp (isType (.ref D)) true := x_isT X hD
  have L3 := looks_mroIn (M := model prog w) X hDb
  have L4 := looks_mroIn (M := model prog w) X hs
  have L5 : Looks (model prog w) hp (isSubtype (.type "type") (.type "tuple")) false := Looks.of_pure tc_notTuple
  unfold excMatches isExcClass isInstance
  repeat lk
  exact hq

theorem x_raise {t : Addr} {d : Option Addr} {n : Str} {np pos : Pos} {Q : Flow → Shared → Prop} (hh : A.handled = none) (F : Fr h₀ L s.heap m) (X₀ : K.In h₀) (N : News h₀ L s.heap news) (hm : m n = some (.ref x)) (hx : (x, exObj C t d .none) ∈ news)
    (hC : mroIn K C (.type "BaseException") = some true) (hCT : typeIn K (.ref C) = some (.type "type")) (h : E (.ref x) s)
    (hk : scope.kind = .function := by rfl) (hl : (envOf name scope L a cd).kindOf n = some .local := by rfl) (hd : (n == ("__debug__" : Str)) = false := by decide) :
    wpAny (model prog w) A (exec (.Raise (some (.Name n np)) none pos) (envOf name scope L a cd)) Q E s := by
  have X := X₀.keeps F.keep
  have hxx := (N _ hx).1
  rw [arm_exec_Raise]
  refine wpAny_bind (wpAny_standAt ?_)
  show wpAny _ _ (raiseStmt _ (some (do let v ← eval (.Name n np) (envOf name scope L a cd); standAt pos; pure v)) none) _ _ _
  unfold raiseStmt
  refine wpAny_bind (wpAny_bind (ld F hm (wpAny_bind (wpAny_standAt (wpAny_pure ?_))) hk hl hd))
  obtain ⟨hp, g, dr, tk, os⟩ := s
  have L0 : Looks (model prog w) hp (typeOf (.ref x)) (.ref C) := (Looks.ld hxx).andThen .now
  have L1 := looks_typeIn (M := model prog w) X hCT
  have L3 := looks_mroIn (M := model prog w) X hC
  have f1 : (#[.ref t, .none, .none, .none, .bool false, .none] : Array Value)[1]? = some .none := rfl
  unfold excFromValue isExcClass isInstance isType raisedInstance
  repeat (first | with_reducible refine wpAny_raiseNew_none hh ?_ | lk)
  exact h

theorem x_caught {base g : Heap} {outer : List Env} {A₀ : Around} {t : Addr} {d : Option Addr} {news' : Value → List (Addr × Obj)} {y n : Str} {np pos : Pos} {b₀ : Stmt} {suite : List Stmt} {rest : List ExceptHandler} {Q : Flow → Shared → Prop}
    {p : Program} {loose : List Str} {mean : ExcName → Option Value} {mg mb : Str → Option Value}
    (B : Below A₀ base outer g) (F : Fr g L s.heap m) (N : News g L s.heap news) (hx : (x, exObj C t d .none) ∈ news) (U : ∀ tb, Upd x (exObj C t d .none) (exObj C t d tb) news (news' tb)) (XB : K.In base) (TB : Top p loose mean mg mb base)
    (D₀ : KtsDicts (outer.filterMap (·.frame)) g) (ey : nsIn K mainGlobals y = some (some (.ref D)))
    (hD : (clsIn K D).isSome = true) (hDT : typeIn K (.ref D) = some (.type "type")) (hDb : mroIn K D (.type "BaseException") = some true) (hs : mroIn K C (.ref D) = some true)
    (k : ∀ h' g' T tk, KtsTurn (outer.filterMap (·.frame)) g g' → Fr g' L h' (fun z => if z = n then some (.ref x) else m z) → News g' L h' (news' (.ref T)) → Below A₀ base outer g' → K.In g' → Top p loose mean mg mb g' → KtsDicts (outer.filterMap (·.frame)) g' →
      wpAny (model prog w) ((A₀.deeper (envOf name scope L a cd)).mark (some (.ref x))) (execs (b₀ :: suite) (envOf name scope L a cd))
        (fun f s₄ => wpAny (model prog w) (A₀.deeper (envOf name scope L a cd)) (do bindName (envOf name scope L a cd) n .none; unbindBehindTheSuite (envOf name scope L a cd) n pos) (fun _ s₅ => Q f s₅) E s₄)
        (AsSuiteRaised (model prog w) ((A₀.deeper (envOf name scope L a cd)).mark (some (.ref x))) (envOf name scope L a cd) n pos (notedBy (model prog w) ((A₀.deeper (envOf name scope L a cd)).mark (some (.ref x))) (envOf name scope L a cd) (cameBackBy (model prog w) (A₀.deeper (envOf name scope L a cd)) (envOf name scope L a cd) E)))
        { s with heap := h', toks := tk })
    (hk : scope.kind = .function := by rfl) (hlo : (envOf name scope L a cd).kindOf n = some .local := by rfl) (hyk : (envOf name scope L a cd).kindOf y = some .globalImplicit := by rfl) (hd : (y == ("__debug__" : Str)) = false := by decide) :
    wpAny (model prog w) (A₀.deeper (envOf name scope L a cd)) (noteFrame (.ref x) (envOf name scope L a cd))
      (fun _ s₂ => wpAny (model prog w) (A₀.deeper (envOf name scope L a cd)) (setFlight (.ref x) none) (fun _ s₃ =>
        wpAny (model prog w) (A₀.deeper (envOf name scope L a cd)) (handleBy (.ref x) (envOf name scope L a cd) (.ExceptHandler (some (.Name y np)) (some n) (b₀ :: suite) pos :: rest)) Q E s₃) E s₂) E s := by
  obtain ⟨hh, gn, dr, tk, os⟩ := s
  have B₁ := B.push (name := name) (scope := scope) (a := a) (cd := cd) F hk
  have Nx := N _ hx
  have hgx : g.get? x = none := Nx.2.2
  have hGget : ∀ b o, b ≠ x → hh.get? b = some o → (hideAll hh [x]).get? b = some o := fun b o hb e => hideAll_get _ e (by simpa using hb)
  have hGof : ∀ b o, (hideAll hh [x]).get? b = some o → hh.get? b = some o := fun b o e => of_hideAll _ e
  have hGx : (hideAll hh [x]).get? x = none := hideAll_none _ (List.mem_singleton.mpr rfl)
  have FG : Fr g L (hideAll hh [x]) m := by
    obtain ⟨oL, es, ep, hL, r⟩ := F.ns
    exact ⟨⟨oL, es, ep, hGget _ _ (Ne.symm Nx.2.1) hL, r⟩, fun b o e => hGget b o (fun q => by rw [q, hgx] at e; cases e) (F.keep b o e), F.above⟩
  have land : ∀ h' T, XFly (hideAll hh [x]) ((envOf name scope L a cd :: outer).filterMap (·.frame)) x C t d T .none h' →
      ∃ g', KtsTurn (outer.filterMap (·.frame)) g g' ∧ Fr g' L h' m ∧ Below A₀ base outer g' ∧ News g' L h' (news' (.ref T)) := by
    intro h' T Y
    have hBget : ∀ b o, (hideAll hh [x]).get? b = some o → b ∉ (envOf name scope L a cd :: outer).filterMap (·.frame) → (hideAll (hideAll hh [x]) ((envOf name scope L a cd :: outer).filterMap (·.frame))).get? b = some o := fun b o e nm => hideAll_get _ e nm
    obtain ⟨g', T', F', K'⟩ := kts_ground (B := hideAll (hideAll hh [x]) ((envOf name scope L a cd :: outer).filterMap (·.frame))) (h₅ := h') B FG hBget (fun b o e => by
      by_cases nm : b ∈ (envOf name scope L a cd :: outer).filterMap (·.frame)
      · rw [hideAll_none _ nm] at e; cases e
      · exact Y.stays b o (of_hideAll _ e) nm) (fun b o e _ => Y.up b o e)
    refine ⟨g', T', F', K', ?_⟩
    obtain ⟨pre, post, e1, e2, a1, a2⟩ := (U (.ref T)).split
    have old : ∀ q ∈ news, q.1 ≠ x → h'.get? q.1 = some q.2 ∧ q.1 ≠ L ∧ g'.get? q.1 = none := fun q hq hne => by
      have Nq := N q hq
      refine ⟨Y.stays _ _ (hGget _ _ hne Nq.1) (fun hm => ?_), Nq.2.1, T'.none_ _ Nq.2.2⟩
      rcases kts_mem hm with z | z
      · exact Nq.2.1 z
      · obtain ⟨_, o, ho, _⟩ := B.frames.mem z
        rw [Nq.2.2] at ho; cases ho
    rw [e2]
    rw [e1] at old
    intro q hq
    rcases List.mem_append.mp hq with hq | hq
    · exact old q (List.mem_append_left _ hq) (a1 q hq)
    · rcases List.mem_cons.mp hq with rfl | hq
      · exact ⟨Y.ex, Nx.2.1, T'.none_ _ hgx⟩
      · exact old q (List.mem_append_right _ (.tail _ hq)) (a2 q hq)
  refine xf_note (G := hideAll hh [x]) (Around.frames_deeper B.stack) B₁.frames rfl Nx.1 hGof hGx fun h₄ T Y₄ => ?_
  refine xf_flight Y₄ fun h₅ Y₅ => ?_
  obtain ⟨g₅, T₅, F₅, K₅, N₅⟩ := land h₅ T Y₅
  have X₅ : K.In g₅ := XB.keeps K₅.stays
  have P₅ : TopRead p loose mg mb g₅ := topRead_of (TB.keeps K₅.stays)
  refine wpAny_handleBy_cons (codeAny_handlers_test (name_K F₅ X₅ P₅ ey ?_ hk hyk hd)) (by intro q; cases q)
  refine x_matches (X₅.keeps F₅.keep) Y₅.ex hD hDT hDb hs ?_
  refine codeAny_handlers_suite_as ?_
  refine xf_flight Y₅ fun h₆ Y₆ => ?_
  obtain ⟨g₆, T₆, F₆, K₆, N₆⟩ := land h₆ T Y₆
  have D₆ : KtsDicts (outer.filterMap (·.frame)) g₆ := D₀.turn T₆
  refine stN F₆ N₆ (fun h₇ F₇ N₇ => ?_) hk hlo
  exact k h₇ g₆ T _ T₆ F₇ N₇ K₆ (XB.keeps K₆.stays) (TB.keeps K₆.stays) D₆
end
section
variable {M : Model} {A : Around} {E : Value → Shared → Prop} {s' : Shared} {base g h : Heap} {outer : List Env} {L e : Addr} {m : Str → Option Value} {env : Env} {Q : Unit → Shared → Prop} {news : List (Addr × Obj)}
theorem x_leave {cls : String} (K : Below A base outer g) (hx : Heap.NewExc h s'.heap e cls) (F : Fr g L h m) (N : News g L h news) (hf : env.frame = some L) (hke : env.scope.kind = .function)
    (hQ : ∀ h', RaisedSN base g outer e (.type cls) news h' → RaisedN base outer e (.type cls) news h' → g.UpToSlots h' → Q () { s' with heap := h' }) :
    wpAny M (A.deeper env) (leaving env (.ref e)) Q E s' := by
  have K' := pushX K F hf hke
  have hin : ∀ env' ∈ (env :: outer), ∀ b, env'.frame = some b → b ∈ (env :: outer).filterMap (·.frame) := fun env' he b hb => List.mem_filterMap.mpr ⟨env', he, hb⟩
  have km : ∀ b, b ∈ (env :: outer).filterMap (·.frame) → b = L ∨ b ∈ outer.filterMap (·.frame) := fun b hm => by
    obtain ⟨env', he, hf'⟩ := List.mem_filterMap.mp hm
    rcases List.mem_cons.mp he with rfl | he
    · exact .inl (Option.some.inj (hf'.symm.trans hf))
    · exact .inr (List.mem_filterMap.mpr ⟨env', he, hf'⟩)
  have st : base.StaysIn (hideAll h ((env :: outer).filterMap (·.frame))) := fun b o q => hideAll_get _ (K'.stays b o q) fun hm => by
    rw [(K'.frames.mem hm).1] at q; cases q
  have sg : ∀ b o, g.get? b = some o → b ∉ outer.filterMap (·.frame) → (hideAll h ((env :: outer).filterMap (·.frame))).get? b = some o := fun b o q nm => hideAll_get _ (F.keep b o q) fun hm => by
    rcases km b hm with z | z
    · rw [z, kts_self F] at q
      cases q
    · exact nm z
  have hl : ∀ q ∈ news, (hideAll h ((env :: outer).filterMap (·.frame))).get? q.1 = some q.2 ∧ g.get? q.1 = none ∧ base.get? q.1 = none := fun q hq => by
    refine ⟨hideAll_get _ (N q hq).1 fun hm => ?_, (N q hq).2.2, fresh_of_stays K.stays (N q hq).2.2⟩
    rcases km _ hm with z | z
    · exact (N q hq).2.1 z
    · obtain ⟨env', he, hf'⟩ := List.mem_filterMap.mp z
      obtain ⟨o, ho, _⟩ := (K.frames.mem (List.mem_filterMap.mpr ⟨env', he, hf'⟩)).2
      rw [(N q hq).2.2] at ho; cases ho
  obtain ⟨ob, tp, he, hcls, hd⟩ := hx.there
  have hen : (hideAll h ((env :: outer).filterMap (·.frame))).get? e = none := by
    cases q : (hideAll h ((env :: outer).filterMap (·.frame))).get? e with
    | none => rfl
    | some o => have := of_hideAll _ q; rw [hx.new] at this; cases this
  refine wpAny_leaving_firstW (a0 := tp) K'.stack ((funFrames_hide K'.frames hin).of_keeps fun b o hb _ => ⟨o, hx.keeps b o hb, rfl⟩) hf he (fun b o hb => hx.keeps b o (of_hideAll _ hb)) hen hd rfl rfl fun h' hL => ?_
  obtain ⟨k1, ⟨_, _, k2⟩, k3, k4⟩ := hL
  have R : RaisedSN base g outer e (.type cls) news h' := ⟨_, tp, st, sg, hl, k1, hen, k2, by rw [← hcls]; exact k3⟩
  exact hQ h' R R.toN (((Heap.UpToSlots.of_keeps F.keep).trans (Heap.UpToSlots.of_keeps hx.keeps)).trans k4)
end
end
end Mine

namespace Mine
section
open PySem PySem.W PyProof.Rows PySem.Spec PySem.Calls
set_option maxRecDepth 100000
set_option maxHeartbeats 1000000
section
variable {prog : Program} {w : World} {A : Around} {E : Value → Shared → Prop} {s : Shared}
theorem x_isnot_bytes {M : Model} {b : Array UInt8} {t : Tok} {Q : Value → Shared → Prop} (h0 : t ≠ 0) (h : Q (.bool false) s) : wpAny M A (compareOp .IsNot (.bytes b t) (.bytes b t)) Q E s := by
  show wpAny M A (isSame (.bytes b t) (.bytes b t) >>= fun r => pure (.bool (!r))) Q E s
  refine wpAny_bind ?_
  show wpAny M A (isSame.created (b == b) t t) _ E s
  unfold isSame.created
  refine wpAny_ite ?_
  split
  · rename_i h
    exfalso
    simp at h
    exact h0 h
  refine wpAny_ite ?_
  split
  · exact wpAny_pure (wpAny_pure h)
  · rename_i h
    exact absurd (by simp) h

theorem x_bytes_end {R : Result → Shared → Prop} {l I S : Addr} {vs : List Value} {bs : Array UInt8} (hh : A.handled = none) (hIS : I ≠ S) (hlI : l ≠ I) (hz : bs.size ≤ sizeLine) (hl : s.heap.IsList l vs.toArray) (hit : s.heap.IsListIter I l vs.length)
    (hS : s.heap.get? S = some { cls := .type "bytearray", data := .bytearray bs }) (hR : ∀ h', (∀ b o, b ≠ I → s.heap.get? b = some o → h'.get? b = some o) → R (.ok (.ret (.bytes bs s.toks))) { s with heap := h', toks := s.toks + 1 }) :
    codeAny (model prog w) A (.builtin "bytes.__new__.loop" ⟨[.type "bytes", .ref I, .ref S], []⟩) R s := by
  refine codeAny_builtin F.bm_entry_loop ?_
  rw [Around.under_plainId F.bm_plain_loop _]
  show wpAny _ A.in1 (pyNext (.ref I) >>= _) _ _ s
  refine wpAny_bind (wpAny_pyNext_list_end hh hit hl (by simp) fun h' he => ?_)
  have hS' := he S _ (Ne.symm hIS) hS
  refine wpAny_bind ?_
  unfold Builtin.Bytes.payload Builtin.Bytes.payload?
  refine wpAny_bind (wpAny_bind (wpAny_load hS' (wpAny_pure (wpAny_pure ?_))))
  refine wpAny_bind (wpAny_mkBytes ?_ hz)
  show wpAny _ _ (if (Value.type "bytes" == Value.type "bytes") = true then _ else _) _ _ _
  refine bm_if_true (by decide) ?_
  first
    | exact wpAny_pure (hR h' he)
    | exact wpAny_bind (wpAny_pure (wpAny_pure (hR h' he)))

theorem x_bytes_one {R : Result → Shared → Prop} {l I S : Addr} {v : Int} {tv : Tok} (hh : A.handled = none) (h0 : 0 ≤ v) (h1 : v < 256) (hIS : I ≠ S) (hlI : l ≠ I) (hlS : l ≠ S) (hl : s.heap.IsList l [.int v tv].toArray) (hit : s.heap.IsListIter I l 0)
    (hS : s.heap.get? S = some { cls := .type "bytearray", data := .bytearray #[] }) (hR : ∀ h', (∀ b o, b ≠ I → b ≠ S → s.heap.get? b = some o → h'.get? b = some o) → R (.ok (.ret (.bytes #[v.toNat.toUInt8] s.toks))) { s with heap := h', toks := s.toks + 1 }) :
    codeAny (model prog w) A (.builtin "bytes.__new__.loop" ⟨[.type "bytes", .ref I, .ref S], []⟩) R s := by
  refine codeAny_builtin F.bm_entry_loop ?_
  rw [Around.under_plainId F.bm_plain_loop _]
  show wpAny _ A.in1 (pyNext (.ref I) >>= _) _ _ s
  refine wpAny_bind (wpAny_pyNext_list_item (x := .int v tv) hit hl (by simp) fun h' hit' hs => ?_)
  have hS' := (hs.2 S (Ne.symm hIS)).trans hS
  refine wpAny_bind (wpAny_holding (wpAny_of_eq (rfl : asIndex (.int v tv) = pure v) ?_))
  refine wpAny_bind (wpAny_letGo ?_)
  refine bm_if_false (by simp only [Bool.or_eq_false_iff, decide_eq_false_iff_not]; omega) ?_
  refine wpAny_bind ?_
  show wpAny _ _ (updateBytearray S (·.push v.toNat.toUInt8)) _ _ _
  unfold updateBytearray
  refine wpAny_bind (wpAny_load hS' ?_)
  show wpAny _ _ (update S (Obj.mapBytearray (·.push v.toNat.toUInt8)) >>= fun _ => lookBehind S) _ _ _
  refine wpAny_bind (wpAny_update hS' ?_)
  have hS₂ : (h'.update S (Obj.mapBytearray (·.push v.toNat.toUInt8))).get? S = some { cls := .type "bytearray", data := .bytearray #[v.toNat.toUInt8] } :=
    Heap.get?_update_self (Obj.mapBytearray (·.push v.toNat.toUInt8)) hS' rfl
  refine wpAny_lookBehind hS₂ rfl ?_
  refine wpAny_pure ⟨plainId_quiet F.bm_plain_loop _, x_bytes_end (s := { s with heap := h'.update S (Obj.mapBytearray (·.push v.toNat.toUInt8)) }) hh hIS hlI (Nat.le_of_ble_eq_true rfl)
    ((hl.extBut hs.extBut hlI).extBut (Heap.SameBut.update ..).extBut hlS) (hit'.extBut (Heap.SameBut.update ..).extBut hIS) hS₂ fun h3 hk3 => ?_⟩
  exact hR h3 fun b o hbI hbS e => hk3 b o hbI ((Heap.get?_update_other _ _ (Ne.symm hbS)).trans (hs.extBut b o hbI e))
theorem x_bytes_new {l : Addr} {v : Int} {tv : Tok} {Q : Value → Shared → Prop} (hh : A.handled = none) (hl : s.heap.IsList l [.int v tv].toArray) (h0 : 0 ≤ v) (h1 : v < 256)
    (hQ : ∀ h', (∀ b o, s.heap.get? b = some o → h'.get? b = some o) → Q (.bytes #[v.toNat.toUInt8] s.toks) { s with heap := h', toks := s.toks + 1 }) :
    codeAny (model prog w) A (.call (.builtin "bytes.__new__") ⟨[.type "bytes", .ref l], []⟩) (wants Q E) s := by
  refine codeAny_of_tree ?_
  show wpAny _ A.in1 (do checkBuiltinCall "bytes.__new__" ⟨[.type "bytes", .ref l], []⟩; again (.builtin "bytes.__new__" ⟨[.type "bytes", .ref l], []⟩)) _ _ s
  refine wpAny_bind (wpAny_of_eq (F.bm_newCall _) (wpAny_pure ⟨plainId_quiet F.bm_plain _, codeAny_builtin F.bm_entry ?_⟩))
  rw [Around.under_plainId F.bm_plain _]
  have hT : s.TypeIs (.ref l) "list" := hl.typeIs
  obtain ⟨ol, hol, hoc, nl, hod⟩ := id hl
  unfold Builtin.«bytes.__new__»
  refine wpAny_bind (wpAny_of_eq (a := true) rfl (bm_if_false rfl ?_))
  refine wpAny_bind (wpAny_of_eq F.bm_sub (bm_if_false rfl ?_))
  refine wpAny_bind (wpAny_of_eq (F.bm_bind _) ?_)
  refine wpAny_bind (wpAny_of_eq (a := ()) rfl ?_)
  refine wpAny_bind (wpAny_of_eq (a := ()) rfl (bm_if_false rfl ?_))
  refine wpAny_bind (wpAny_specialOf hT F.bm_no_bytes ?_)
  refine wpAny_bind (wpAny_bind ?_)
  show wpAny _ _ (load l >>= _) _ _ _
  refine wpAny_bind (wpAny_load hol ?_)
  rw [hod]
  refine wpAny_pure (wpAny_pure (bm_if_false rfl ?_))
  refine wpAny_bind (wpAny_specialOf hT F.bm_no_index (bm_if_true rfl ?_))
  first
    | show wpAny _ _ (Builtin.Bytes.buffer? "bytes.__new__" (.ref l) true >>= _) _ _ _
    | (refine wpAny_bind ?_; show wpAny _ _ (Builtin.Bytes.buffer? "bytes.__new__" (.ref l) true >>= _) _ _ _)
  refine wpAny_bind ?_
  unfold Builtin.Bytes.buffer?
  refine wpAny_bind (wpAny_specialOf hT F.bm_no_buffer ?_)
  refine wpAny_bind (wpAny_specialOf hT F.bm_no_buffer (wpAny_pure ?_))
  refine wpAny_bind (wpAny_tryCatch (wpAny_pyIter_list hl ?_))
  have hl₁ : (s.heap.push { cls := .type "list_iterator", data := .fields #[.ref l, .int 0 0] }).IsList l [.int v tv].toArray := hl.push _
  have hT₁ : ({ s with heap := s.heap.push { cls := .type "list_iterator", data := .fields #[.ref l, .int 0 0] } } : Shared).TypeIs (.ref l) "list" := Heap.IsList.typeIs (s := { s with heap := s.heap.push { cls := .type "list_iterator", data := .fields #[.ref l, .int 0 0] } }) hl₁
  refine wpAny_bind (wpAny_holding ?_)
  unfold Builtin.Bytes.lengthHint
  refine wpAny_bind (wpAny_specialOf hT₁ slot_list_len.lookup ?_)
  dsimp only
  rw [F.bm_split]
  dsimp only
  refine wpAny_bind (wpAny_isInstance hT₁ F.bm_sub_list (bm_if_false rfl (bm_if_true (by decide +kernel) (wpAny_pure ?_))))
  refine wpAny_bind ?_
  unfold Builtin.Bytes.newBytearray
  refine wpAny_newObj_type ?_ (Nat.zero_le _)
  have hlt : l < s.heap.objs.size := Heap.lt_size hol
  have hsz : (s.heap.push { cls := .type "list_iterator", data := .fields #[.ref l, .int 0 0] }).objs.size = s.heap.objs.size + 1 := Heap.size_push _ _
  have main := x_bytes_one (prog := prog) (w := w) (A := A) (R := wants Q E) (l := l) (I := s.heap.objs.size) (S := (s.heap.push { cls := .type "list_iterator", data := .fields #[.ref l, .int 0 0] }).objs.size) (v := v) (tv := tv)
    (s := { s with heap := (s.heap.push { cls := .type "list_iterator", data := .fields #[.ref l, .int 0 0] }).push { cls := .type "bytearray", data := .bytearray #[] } }) hh h0 h1
    (by rw [hsz]; exact Nat.ne_of_lt (Nat.lt_succ_self _)) (Nat.ne_of_lt hlt) (by rw [hsz]; exact Nat.ne_of_lt (Nat.lt_succ_of_lt hlt)) (hl₁.push _) ⟨_, Heap.get?_push_of_some _ (Heap.get?_push_size _ rfl), rfl, rfl⟩ (Heap.get?_push_size _ rfl)
    fun h' hk => hQ h' fun b o e => hk b o (Nat.ne_of_lt (Heap.lt_size e)) (by rw [hsz]; exact Nat.ne_of_lt (Nat.lt_succ_of_lt (Heap.lt_size e))) (Heap.get?_push_of_some _ (Heap.get?_push_of_some _ e))
  first
    | exact wpAny_pure ⟨plainId_quiet F.bm_plain_loop _, main⟩
    | exact wpAny_pure (wpAny_pure ⟨plainId_quiet F.bm_plain_loop _, main⟩)

theorem x_bytes_call {l : Addr} {v : Int} {tv : Tok} {Q : Value → Shared → Prop} (hh : A.handled = none) (hl : s.heap.IsList l [.int v tv].toArray) (h0 : 0 ≤ v) (h1 : v < 256)
    (hQ : ∀ h', (∀ b o, s.heap.get? b = some o → h'.get? b = some o) → Q (.bytes #[v.toNat.toUInt8] s.toks) { s with heap := h', toks := s.toks + 1 }) : wpAny (model prog w) A (call (.type "bytes") [.ref l]) Q E s := by
  refine callType_codes (Q₁ := fun obj s₁ => s₁.TypeIs obj "bytes" ∧ Q obj s₁) F.bm_called (F.bm_typeCall _) F.entry_object_init
    (x_bytes_new hh hl h0 h1 fun h' hk => ⟨PySem.W.typeIs_bytes _ _ _, hQ h' hk⟩) fun obj s₁ h₁ => ?_
  exact ⟨h₁.1, F.args_object_init_2 obj _, object_init_meets F.bm_called.init.lookup F.bm_called.made (by decide) prog w A.in1 _ s₁ ⟨h₁.1, rfl, h₁.2⟩⟩

theorem x_bytes {h₀ : Heap} {L : Addr} {m : Str → Option Value} {news : List (Addr × Obj)} {l : Addr} {v : Int} {tv : Tok} {o : Obj} {Q : Value → Shared → Prop} (F : Fr h₀ L s.heap m) (N : News h₀ L s.heap news) (hm : (l, o) ∈ news) (ho : o = listOf #[.int v tv] 0)
    (hh : A.handled = none) (h0 : 0 ≤ v) (h1 : v < 256) (ht : 0 < s.toks)
    (h : ∀ h' t k, t ≠ 0 → Fr h₀ L h' m → News h₀ L h' news → Q (.bytes #[v.toNat.toUInt8] t) { s with heap := h', toks := k }) : wpAny (model prog w) A (call (.type "bytes") [.ref l]) Q E s := by
  subst ho
  exact x_bytes_call hh ⟨_, (N _ hm).1, rfl, 0, rfl⟩ h0 h1 fun h' hk => h h' _ _ (Nat.pos_iff_ne_zero.mp ht) (F.keeps hk) fun q hq => ⟨hk _ _ (N q hq).1, (N q hq).2⟩
end
end
end Mine

namespace Mine
section
open PySem PySem.W PyProof.Rows PySem.Spec PySem.Calls
set_option maxRecDepth 100000
set_option maxHeartbeats 4000000
local macro_rules | `(tactic| k_mem) => `(tactic| (show (_ : Addr × Obj) ∈ (_ : List (Addr × Obj)); with_reducible assumption))
local macro_rules | `(tactic| k_all) => `(tactic| first | exact allLt_ne (by assumption) (leN (by (try dsimp only); omega)) | exact memLt_ne (by assumption) (leN (by (try dsimp only); omega)))
local macro_rules | `(tactic| k_inst) => `(tactic| first | (refine' exAt ?N ?h1 ?h2; (case N => k_asm); (case h1 => k_mem); (case h2 => k_mem)) | (refine' exAt0 ?N ?h1; (case N => k_asm); (case h1 => k_mem)))
local macro_rules | `(tactic| walk_at "call ref") => `(tactic| (k_here; k_dflt (refine' x_call ?k1 ?k2 ?k3 ?k4 ?k5 ?k6 ?kz ?_; (case k1 => k_asm); (case k2 => k_asm); (case k3 => k_asm); (case k4 => kernel_rfl); (case k5 => k_is); (case k6 => k_is); (case kz => exact Nat.le_of_ble_eq_true rfl); k_whole; intro x' t' h' F' N' l1 l2; (try k_lt l1); (try k_lt2 l2); (refine' ks_code_super ?k1 ?k2 ?k3 ?k4 ?k5 ?kA ?kF ?kK ?k6 ?k7 ?k8 ?k9 ?kB ?_ ?c1 ?c2 ?c3 ?c4; (case kA => exact rfl); (case kF => exact rfl); (case kK => exact rfl); (case k1 => k_asm); (case k2 => k_asm); (case k3 => k_asm); (case k4 => k_asm); (case k5 => k_asm); (case k6 => k_is); (case k7 => k_is); (case k8 => k_room); (case k9 => first | exact BindsTo.of_eq rfl | exact binds_K (by k_in) rfl (by k_is) rfl rfl rfl | fail "x_enter: no rule for these arguments"); (case kB => exact locs rfl); (case c1 => decide); (case c2 => exact rfl); (case c3 => exact rfl); (case c4 => exact rfl); intro g' L' h' FG' F' N' B' X' T' l1; (try k_lt l1); (try dsimp only); (try k_lift B')))))
local macro_rules | `(tactic| walk_at "call ref") => `(tactic| (k_here; k_dflt (refine' x_call_mw ?k1 ?k2 ?k3 ?k4 ?k5 ?k6 ?k7 ?k8 ?_; (case k1 => k_asm); (case k2 => k_asm); (case k3 => k_asm); (case k4 => k_mem); (case k5 => k_mem); (case k6 => k_is); (case k7 => exact Nat.le_of_ble_eq_true rfl); (case k8 => (intro t9; k_upd)); k_whole; intro t' h' F' N' l1; (try k_lt l1); (try dsimp only at N'); (try k_sweep))))
local macro_rules | `(tactic| walk_at "getMethod ref") => `(tactic| (k_here; k_dflt (refine' x_method ?k1 ?k2 ?k3 ?k4 ?k5 ?k6 ?k7 ?k8 ?k9 ?_; (case k1 => k_asm); (case k2 => k_asm); (case k3 => k_asm); (case k4 => k_mem); (case k5 => k_inst); (case k6 => k_is); (case k7 => ks_is); (case k8 => k_is); (case k9 => decide); k_whole; intro q' h' F' N' l1; (try k_lt l1))))
local macro_rules | `(tactic| walk_at "callWith ref") => `(tactic| (k_here; k_dflt (refine' x_callWith_mw ?k1 ?k2 ?_; (case k1 => k_asm); (case k2 => k_mem); k_whole)))
local macro_rules | `(tactic| walk_at "XMw ref") => `(tactic| (k_dflt (refine' xMw_of ?k1 ?k2; (case k1 => k_asm); (case k2 => k_mem))))
local macro_rules | `(tactic| walk_at "setAttr ref") => `(tactic| (k_here; k_dflt (first
  | (refine' x_set0 ?k1 ?k2 ?k3 ?k4 ?k5 ?k6 ?k7 ?k8 ?_; (case k1 => k_asm); (case k2 => k_asm); (case k3 => k_asm); (case k4 => k_mem); (case k5 => k_is); (case k6 => kernel_rfl); (case k7 => k_is); (case k8 => (intro d9; k_upd)); k_whole; intro d' h' F' N' l1; (try k_lt l1); (try dsimp only at N'); (try k_sweep))
  | (refine' x_set1 ?k1 ?k2 ?k3 ?k4 ?k5 ?k6 ?k7 ?k8 ?k9 ?k10 ?k11 ?k12 ?_; (case k1 => k_asm); (case k2 => k_asm); (case k3 => k_asm); (case k4 => k_mem); (case k5 => k_mem); (case k6 => k_is); (case k7 => kernel_rfl); (case k8 => k_is); (case k9 => k_get); (case k10 => k_put); (case k11 => k_upd); (case k12 => exact Nat.le_of_ble_eq_true rfl); k_whole; intro h' F' N'; (try k_sweep)))))
local macro_rules | `(tactic| walk_at "call type:str") => `(tactic| (k_here; (with_reducible show wpAny _ _ (call (Value.type "str") [Value.ref _]) _ _ _); k_dflt (refine' x_str ?k1 ?k2 ?k3 ?k4 ?k5 ?k6 ?_; (case k1 => k_units); (case k2 => k_in); (case k3 => exact (News.get (by k_asm) (by k_mem))); (case k4 => exact (News.get (by k_asm) (by k_mem))); (case k5 => first | assumption | k_is); (case k6 => first | assumption | k_is); k_whole)))
local macro_rules | `(tactic| walk_at "wpAt") => `(tactic| (dsimp only; ks_step "execs cons"; refine ks_wpAt_execs_cons ?_))
local macro_rules | `(tactic| walk_at "wpAt") => `(tactic| ((try dsimp only); k_dflt (ks_step "exec Expr"; refine ks_wpAt_Expr_any ?_)))
local macro_rules | `(tactic| walk_at "wpAt") => `(tactic| ((try dsimp only); k_dflt (ks_step "eval Call"; refine ks_wpAt_MethodCall ?_)))

abbrev ent (w : World) (a : String) (k : Tok) (v : Value) : DictEntry := ⟨PyData.keyHash w.params (Str.ofString a), .str (Str.ofString a) k, v⟩
theorem memLt_lt {d b : Addr} {l : List (Addr × Obj)} (h : ∀ p ∈ l, p.1 < d) (hb : d ≤ b) : ∀ p ∈ l, p.1 < b := fun p hp => Nat.lt_of_lt_of_le (h p hp) hb
theorem allLt_lt {d b : Addr} : ∀ {l : List (Addr × Obj)}, AllLt d l → d ≤ b → ∀ p ∈ l, p.1 < b
  | [], _, _, _, h => nomatch h
  | q :: r, ⟨h1, h2⟩, hb, p, hp => by
    rcases List.mem_cons.mp hp with rfl | hp
    · exact Nat.lt_of_lt_of_le h1 hb
    · exact allLt_lt h2 hb p hp
local macro_rules | `(tactic| k_memK) => `(tactic| k_mem)
section
variable {w : World} {p : Program} {loose : List Str} {mean : ExcName → Option Value} {mg mb : Str → Option Value} {h₀ : Heap} {ns : List (Str × NameKind)} {L fa : Addr} {cd : Value} {m : Str → Option Value} {news : List (Addr × Obj)} {s : Shared} {Q E : Value → Shared → Prop}

theorem c_enc (B : Below callerA h₀ [] h₀) (F : Fr h₀ L s.heap m) (X : (hd.heap_39 w.params).In h₀) (N : News h₀ L s.heap news) (T : Top p loose mean mg mb h₀)
    {x₀ : Str} {t₀ : Tok} {v : Value}
    (hret : ∀ {x t d : Addr} {k0 u' : Tok} {h' : Heap} {tk' : Nat}, Fr h₀ L h' m → News h₀ L h' ((x, exObj 46 t (some d) .none) :: (t, tupObj [.str x₀ u']) :: (d, dictOf [ent w "obj" k0 v] 1) :: news) → (∀ p ∈ news, p.1 < x) → x < t → t < d → Q (.ref x) { s with heap := h', toks := tk' }) :
    wpAny (model PySem.Challenge.rw_ej5032_01.row.prog w) (lawA ns L fa cd) (call (.ref 46) [.str x₀ t₀, v]) Q E s := by
  k_steps
  · refine' hret ?cF ?cN ?cA ?cB ?cC
    case cF => k_asm
    case cN =>
      refine' news_of ?n1 ?n2
      case n1 => k_asm
      case n2 => refine List.forall_mem_cons.mpr ⟨by k_mem, List.forall_mem_cons.mpr ⟨by k_mem, List.forall_mem_cons.mpr ⟨by k_mem, fun p9 hp9 => by k_mem⟩⟩⟩
    case cA => exact memLt_lt (by assumption) (leN (by (try dsimp only); omega))
    case cB => exact ltN (by (try dsimp only); omega)
    case cC => exact ltN (by (try dsimp only); omega)

theorem c_dec (B : Below callerA h₀ [] h₀) (F : Fr h₀ L s.heap m) (X : (hd.heap_39 w.params).In h₀) (N : News h₀ L s.heap news) (T : Top p loose mean mg mb h₀)
    {x₀ : Str} {t₀ : Tok} {v : Value}
    (hret : ∀ {x t d : Addr} {k0 u' : Tok} {h' : Heap} {tk' : Nat}, Fr h₀ L h' m → News h₀ L h' ((x, exObj 67 t (some d) .none) :: (t, tupObj [.str x₀ u']) :: (d, dictOf [ent w "rlp" k0 v] 1) :: news) → (∀ p ∈ news, p.1 < x) → x < t → t < d → Q (.ref x) { s with heap := h', toks := tk' }) :
    wpAny (model PySem.Challenge.rw_ej5032_01.row.prog w) (lawA ns L fa cd) (call (.ref 67) [.str x₀ t₀, v]) Q E s := by
  k_steps
  · refine' hret ?cF ?cN ?cA ?cB ?cC
    case cF => k_asm
    case cN =>
      refine' news_of ?n1 ?n2
      case n1 => k_asm
      case n2 => refine List.forall_mem_cons.mpr ⟨by k_mem, List.forall_mem_cons.mpr ⟨by k_mem, List.forall_mem_cons.mpr ⟨by k_mem, fun p9 hp9 => by k_mem⟩⟩⟩
    case cA => exact memLt_lt (by assumption) (leN (by (try dsimp only); omega))
    case cB => exact ltN (by (try dsimp only); omega)
    case cC => exact ltN (by (try dsimp only); omega)

theorem c_ser (B : Below callerA h₀ [] h₀) (F : Fr h₀ L s.heap m) (X : (hd.heap_39 w.params).In h₀) (N : News h₀ L s.heap news) (T : Top p loose mean mg mb h₀)
    {x₀ : Str} {t₀ : Tok} {v : Value}
    (hret : ∀ {x t d : Addr} {k0 u' : Tok} {h' : Heap} {tk' : Nat}, Fr h₀ L h' m → News h₀ L h' ((x, exObj 88 t (some d) .none) :: (t, tupObj [.str x₀ u']) :: (d, dictOf [ent w "obj" k0 v] 1) :: news) → (∀ p ∈ news, p.1 < x) → x < t → t < d → Q (.ref x) { s with heap := h', toks := tk' }) :
    wpAny (model PySem.Challenge.rw_ej5032_01.row.prog w) (lawA ns L fa cd) (call (.ref 88) [.str x₀ t₀, v]) Q E s := by
  k_steps
  · refine' hret ?cF ?cN ?cA ?cB ?cC
    case cF => k_asm
    case cN =>
      refine' news_of ?n1 ?n2
      case n1 => k_asm
      case n2 => refine List.forall_mem_cons.mpr ⟨by k_mem, List.forall_mem_cons.mpr ⟨by k_mem, List.forall_mem_cons.mpr ⟨by k_mem, fun p9 hp9 => by k_mem⟩⟩⟩
    case cA => exact memLt_lt (by assumption) (leN (by (try dsimp only); omega))
    case cB => exact ltN (by (try dsimp only); omega)
    case cC => exact ltN (by (try dsimp only); omega)

theorem c_des (B : Below callerA h₀ [] h₀) (F : Fr h₀ L s.heap m) (X : (hd.heap_39 w.params).In h₀) (N : News h₀ L s.heap news) (T : Top p loose mean mg mb h₀)
    {x₀ : Str} {t₀ : Tok} {v : Value}
    (hret : ∀ {x t d : Addr} {k0 u' : Tok} {h' : Heap} {tk' : Nat}, Fr h₀ L h' m → News h₀ L h' ((x, exObj 131 t (some d) .none) :: (t, tupObj [.str x₀ u']) :: (d, dictOf [ent w "serial" k0 v] 1) :: news) → (∀ p ∈ news, p.1 < x) → x < t → t < d → Q (.ref x) { s with heap := h', toks := tk' }) :
    wpAny (model PySem.Challenge.rw_ej5032_01.row.prog w) (lawA ns L fa cd) (call (.ref 131) [.str x₀ t₀, v]) Q E s := by
  k_steps
  · refine' hret ?cF ?cN ?cA ?cB ?cC
    case cF => k_asm
    case cN =>
      refine' news_of ?n1 ?n2
      case n1 => k_asm
      case n2 => refine List.forall_mem_cons.mpr ⟨by k_mem, List.forall_mem_cons.mpr ⟨by k_mem, List.forall_mem_cons.mpr ⟨by k_mem, fun p9 hp9 => by k_mem⟩⟩⟩
    case cA => exact memLt_lt (by assumption) (leN (by (try dsimp only); omega))
    case cB => exact ltN (by (try dsimp only); omega)
    case cC => exact ltN (by (try dsimp only); omega)

theorem ls2 (B : Below callerA h₀ [] h₀) (F : Fr h₀ L s.heap m) (X : (hd.heap_39 w.params).In h₀) (N : News h₀ L s.heap news) (T : Top p loose mean mg mb h₀)
    {x₀ : Str} {t₀ : Tok} {v : Value}
    (hret : ∀ {x t d : Addr} {k0 k1 k2 u' : Tok} {h' : Heap} {tk' : Nat}, Fr h₀ L h' m → News h₀ L h' ((x, exObj 110 t (some d) .none) :: (t, tupObj [.str x₀ u']) :: (d, dictOf [ent w "obj" k0 v, ent w "index" k1 .none, ent w "element_exception" k2 .none] 3) :: news) → (∀ p ∈ news, p.1 < x) → x < t → t < d → Q (.ref x) { s with heap := h', toks := tk' }) :
    wpAny (model PySem.Challenge.rw_ej5032_01.row.prog w) (lawA ns L fa cd) (call (.ref 110) [.str x₀ t₀, v]) Q E s := by
  k_steps
  · refine' hret ?cF ?cN ?cA ?cB ?cC
    case cF => k_asm
    case cN =>
      refine' news_of ?n1 ?n2
      case n1 => k_asm
      case n2 => refine List.forall_mem_cons.mpr ⟨by k_mem, List.forall_mem_cons.mpr ⟨by k_mem, List.forall_mem_cons.mpr ⟨by k_mem, fun p9 hp9 => by k_mem⟩⟩⟩
    case cA => exact memLt_lt (by assumption) (leN (by (try dsimp only); omega))
    case cB => exact ltN (by (try dsimp only); omega)
    case cC => exact ltN (by (try dsimp only); omega)

theorem ls4 (B : Below callerA h₀ [] h₀) (F : Fr h₀ L s.heap m) (X : (hd.heap_39 w.params).In h₀) (N : News h₀ L s.heap news) (T : Top p loose mean mg mb h₀)
    {x₀ : Str} {t₀ u : Tok} {v : Value} {y : Addr} {k : Int}
    (hret : ∀ {x t d : Addr} {k0 k1 k2 u' : Tok} {h' : Heap} {tk' : Nat}, Fr h₀ L h' m → News h₀ L h' ((x, exObj 110 t (some d) .none) :: (t, tupObj [.str x₀ u']) :: (d, dictOf [ent w "obj" k0 v, ent w "index" k1 (.int k u), ent w "element_exception" k2 (.ref y)] 3) :: news) → (∀ p ∈ news, p.1 < x) → x < t → t < d → Q (.ref x) { s with heap := h', toks := tk' }) :
    wpAny (model PySem.Challenge.rw_ej5032_01.row.prog w) (lawA ns L fa cd) (call (.ref 110) [.str x₀ t₀, v, .ref y, .int k u]) Q E s := by
  k_steps
  · refine' hret ?cF ?cN ?cA ?cB ?cC
    case cF => k_asm
    case cN =>
      refine' news_of ?n1 ?n2
      case n1 => k_asm
      case n2 => refine List.forall_mem_cons.mpr ⟨by k_mem, List.forall_mem_cons.mpr ⟨by k_mem, List.forall_mem_cons.mpr ⟨by k_mem, fun p9 hp9 => by k_mem⟩⟩⟩
    case cA => exact memLt_lt (by assumption) (leN (by (try dsimp only); omega))
    case cB => exact ltN (by (try dsimp only); omega)
    case cC => exact ltN (by (try dsimp only); omega)

theorem lskw (B : Below callerA h₀ [] h₀) (F : Fr h₀ L s.heap m) (X : (hd.heap_39 w.params).In h₀) (N : News h₀ L s.heap news) (T : Top p loose mean mg mb h₀)
    {v : Value} {y ty : Addr} {Cy : Addr} {dy : Option Addr} {tby : Value} {msg : Str} {tk : Tok} {k : Int} {u : Tok} (hk0 : 0 ≤ k) (hk1 : k < 6) (hl : msg.length ≤ 10000)
    (hy : (y, exObj Cy ty dy tby) ∈ news) (hty : (ty, tupObj [.str msg tk]) ∈ news) (hs : findIn (hd.heap_39 w.params) (.ref Cy) "__str__" = some (some (.builtin "BaseException.__str__"))) (hb : mroIn (hd.heap_39 w.params) Cy (.type "BaseException") = some true)
    (hret : ∀ {x t d : Addr} {k0 k1 k2 u' : Tok} {h' : Heap} {tk' : Nat}, Fr h₀ L h' m → News h₀ L h' ((x, exObj 110 t (some d) .none) :: (t, tupObj [.str (wrapS k msg) u']) :: (d, dictOf [ent w "obj" k0 v, ent w "index" k1 (.int k u), ent w "element_exception" k2 (.ref y)] 3) :: news) → (∀ p ∈ news, p.1 < x) → x < t → t < d → Q (.ref x) { s with heap := h', toks := tk' }) :
    wpAny (model PySem.Challenge.rw_ej5032_01.row.prog w) (lawA ns L fa cd) (call (.ref 110) [] [(Str.ofString "obj", v), (Str.ofString "element_exception", .ref y), (Str.ofString "index", .int k u)]) Q E s := by
  unfold wrapS at hret
  k_steps
  · refine' hret ?cF ?cN ?cA ?cB ?cC
    case cF => k_asm
    case cN =>
      refine' news_of ?n1 ?n2
      case n1 => k_asm
      case n2 => refine List.forall_mem_cons.mpr ⟨by k_mem, List.forall_mem_cons.mpr ⟨by k_mem, List.forall_mem_cons.mpr ⟨by k_mem, fun p9 hp9 => by k_mem⟩⟩⟩
    case cA => exact memLt_lt (by assumption) (leN (by (try dsimp only); omega))
    case cB => exact ltN (by (try dsimp only); omega)
    case cC => exact ltN (by (try dsimp only); omega)

theorem ldkw (B : Below callerA h₀ [] h₀) (F : Fr h₀ L s.heap m) (X : (hd.heap_39 w.params).In h₀) (N : News h₀ L s.heap news) (T : Top p loose mean mg mb h₀)
    {v : Value} {y ty : Addr} {Cy : Addr} {dy : Option Addr} {tby : Value} {msg : Str} {tk : Tok} {k : Int} {u : Tok} (hk0 : 0 ≤ k) (hk1 : k < 6) (hl : msg.length ≤ 10000)
    (hy : (y, exObj Cy ty dy tby) ∈ news) (hty : (ty, tupObj [.str msg tk]) ∈ news) (hs : findIn (hd.heap_39 w.params) (.ref Cy) "__str__" = some (some (.builtin "BaseException.__str__"))) (hb : mroIn (hd.heap_39 w.params) Cy (.type "BaseException") = some true)
    (hret : ∀ {x t d : Addr} {k0 k1 k2 u' : Tok} {h' : Heap} {tk' : Nat}, Fr h₀ L h' m → News h₀ L h' ((x, exObj 153 t (some d) .none) :: (t, tupObj [.str (wrapD k msg) u']) :: (d, dictOf [ent w "serial" k0 v, ent w "index" k1 (.int k u), ent w "element_exception" k2 (.ref y)] 3) :: news) → (∀ p ∈ news, p.1 < x) → x < t → t < d → Q (.ref x) { s with heap := h', toks := tk' }) :
    wpAny (model PySem.Challenge.rw_ej5032_01.row.prog w) (lawA ns L fa cd) (call (.ref 153) [] [(Str.ofString "serial", v), (Str.ofString "element_exception", .ref y), (Str.ofString "index", .int k u)]) Q E s := by
  unfold wrapD at hret
  k_steps
  · refine' hret ?cF ?cN ?cA ?cB ?cC
    case cF => k_asm
    case cN =>
      refine' news_of ?n1 ?n2
      case n1 => k_asm
      case n2 => refine List.forall_mem_cons.mpr ⟨by k_mem, List.forall_mem_cons.mpr ⟨by k_mem, List.forall_mem_cons.mpr ⟨by k_mem, fun p9 hp9 => by k_mem⟩⟩⟩
    case cA => exact memLt_lt (by assumption) (leN (by (try dsimp only); omega))
    case cB => exact ltN (by (try dsimp only); omega)
    case cC => exact ltN (by (try dsimp only); omega)

theorem ld4b (B : Below callerA h₀ [] h₀) (F : Fr h₀ L s.heap m) (X : (hd.heap_39 w.params).In h₀) (N : News h₀ L s.heap news) (T : Top p loose mean mg mb h₀)
    {v : Value} {y ty : Addr} {Cy : Addr} {dy : Option Addr} {tby : Value} {msg : Str} {tk : Tok} {k : Int} {u : Tok} (hk0 : 0 ≤ k) (hk1 : k < 6) (hl : msg.length ≤ 10000)
    (hy : (y, exObj Cy ty dy tby) ∈ news) (hty : (ty, tupObj [.str msg tk]) ∈ news) (hs : findIn (hd.heap_39 w.params) (.ref Cy) "__str__" = some (some (.builtin "BaseException.__str__"))) (hb : mroIn (hd.heap_39 w.params) Cy (.type "BaseException") = some true) {t₀ : Tok}
    (hret : ∀ {x t d : Addr} {k0 k1 k2 u' : Tok} {h' : Heap} {tk' : Nat}, Fr h₀ L h' m → News h₀ L h' ((x, exObj 153 t (some d) .none) :: (t, tupObj [.str (wrapD k msg) u']) :: (d, dictOf [ent w "serial" k0 v, ent w "index" k1 (.int k u), ent w "element_exception" k2 (.ref y)] 3) :: news) → (∀ p ∈ news, p.1 < x) → x < t → t < d → Q (.ref x) { s with heap := h', toks := tk' }) :
    wpAny (model PySem.Challenge.rw_ej5032_01.row.prog w) (lawA ns L fa cd) (call (.ref 153) [.str (Str.ofString "") t₀, v, .ref y, .int k u]) Q E s := by
  unfold wrapD at hret
  k_steps
  · refine' hret ?cF ?cN ?cA ?cB ?cC
    case cF => k_asm
    case cN =>
      refine' news_of ?n1 ?n2
      case n1 => k_asm
      case n2 => refine List.forall_mem_cons.mpr ⟨by k_mem, List.forall_mem_cons.mpr ⟨by k_mem, List.forall_mem_cons.mpr ⟨by k_mem, fun p9 hp9 => by k_mem⟩⟩⟩
    case cA => exact memLt_lt (by assumption) (leN (by (try dsimp only); omega))
    case cB => exact ltN (by (try dsimp only); omega)
    case cC => exact ltN (by (try dsimp only); omega)

theorem ld4a (B : Below callerA h₀ [] h₀) (F : Fr h₀ L s.heap m) (X : (hd.heap_39 w.params).In h₀) (N : News h₀ L s.heap news) (T : Top p loose mean mg mb h₀)
    {x₀ : Str} (hx₀ : 1 ≤ x₀.length) (hx₁ : x₀.length ≤ 10000) {t₀ u : Tok} {v : Value} {y : Addr} {k : Int}
    (hret : ∀ {x t d : Addr} {k0 k1 k2 u' : Tok} {h' : Heap} {tk' : Nat}, Fr h₀ L h' m → News h₀ L h' ((x, exObj 153 t (some d) .none) :: (t, tupObj [.str x₀ u']) :: (d, dictOf [ent w "serial" k0 v, ent w "index" k1 (.int k u), ent w "element_exception" k2 (.ref y)] 3) :: news) → (∀ p ∈ news, p.1 < x) → x < t → t < d → Q (.ref x) { s with heap := h', toks := tk' }) :
    wpAny (model PySem.Challenge.rw_ej5032_01.row.prog w) (lawA ns L fa cd) (call (.ref 153) [.str x₀ t₀, v, .ref y, .int k u]) Q E s := by
  k_steps
  · refine' hret ?cF ?cN ?cA ?cB ?cC
    case cF => k_asm
    case cN =>
      refine' news_of ?n1 ?n2
      case n1 => k_asm
      case n2 => refine List.forall_mem_cons.mpr ⟨by k_mem, List.forall_mem_cons.mpr ⟨by k_mem, List.forall_mem_cons.mpr ⟨by k_mem, fun p9 hp9 => by k_mem⟩⟩⟩
    case cA => exact memLt_lt (by assumption) (leN (by (try dsimp only); omega))
    case cB => exact ltN (by (try dsimp only); omega)
    case cC => exact ltN (by (try dsimp only); omega)

theorem ld2 (B : Below callerA h₀ [] h₀) (F : Fr h₀ L s.heap m) (X : (hd.heap_39 w.params).In h₀) (N : News h₀ L s.heap news) (T : Top p loose mean mg mb h₀)
    {x₀ : Str} (hx₀ : 1 ≤ x₀.length) (hx₁ : x₀.length ≤ 10000) {t₀ : Tok} {v : Value}
    (hret : ∀ {x t d : Addr} {k0 k1 k2 u' : Tok} {h' : Heap} {tk' : Nat}, Fr h₀ L h' m → News h₀ L h' ((x, exObj 153 t (some d) .none) :: (t, tupObj [.str x₀ u']) :: (d, dictOf [ent w "serial" k0 v, ent w "index" k1 .none, ent w "element_exception" k2 .none] 3) :: news) → (∀ p ∈ news, p.1 < x) → x < t → t < d → Q (.ref x) { s with heap := h', toks := tk' }) :
    wpAny (model PySem.Challenge.rw_ej5032_01.row.prog w) (lawA ns L fa cd) (call (.ref 153) [.str x₀ t₀, v]) Q E s := by
  k_steps
  · refine' hret ?cF ?cN ?cA ?cB ?cC
    case cF => k_asm
    case cN =>
      refine' news_of ?n1 ?n2
      case n1 => k_asm
      case n2 => refine List.forall_mem_cons.mpr ⟨by k_mem, List.forall_mem_cons.mpr ⟨by k_mem, List.forall_mem_cons.mpr ⟨by k_mem, fun p9 hp9 => by k_mem⟩⟩⟩
    case cA => exact memLt_lt (by assumption) (leN (by (try dsimp only); omega))
    case cB => exact ltN (by (try dsimp only); omega)
    case cC => exact ltN (by (try dsimp only); omega)
end
end
end Mine

namespace Mine
section
open PySem PySem.W PyProof.Rows PySem.Spec PySem.Calls
set_option maxRecDepth 100000
set_option maxHeartbeats 4000000
local macro_rules | `(tactic| k_mem) => `(tactic| (show (_ : Addr × Obj) ∈ (_ : List (Addr × Obj)); with_reducible assumption))
local macro_rules | `(tactic| k_all) => `(tactic| first | exact allLt_ne (by assumption) (leN (by (try dsimp only); omega)) | exact memLt_ne (by assumption) (leN (by (try dsimp only); omega)))
local macro_rules | `(tactic| k_inst) => `(tactic| first | (refine' exAt ?N ?h1 ?h2; (case N => k_asm); (case h1 => k_mem); (case h2 => k_mem)) | (refine' exAt0 ?N ?h1; (case N => k_asm); (case h1 => k_mem)))
local macro_rules | `(tactic| walk_at "call ref") => `(tactic| (k_here; k_dflt (refine' x_call ?k1 ?k2 ?k3 ?k4 ?k5 ?k6 ?kz ?_; (case k1 => k_asm); (case k2 => k_asm); (case k3 => k_asm); (case k4 => kernel_rfl); (case k5 => k_is); (case k6 => k_is); (case kz => exact Nat.le_of_ble_eq_true rfl); k_whole; intro x' t' h' F' N' l1 l2; (try k_lt l1); (try k_lt2 l2); (refine' ks_code_super ?k1 ?k2 ?k3 ?k4 ?k5 ?kA ?kF ?kK ?k6 ?k7 ?k8 ?k9 ?kB ?_ ?c1 ?c2 ?c3 ?c4; (case kA => exact rfl); (case kF => exact rfl); (case kK => exact rfl); (case k1 => k_asm); (case k2 => k_asm); (case k3 => k_asm); (case k4 => k_asm); (case k5 => k_asm); (case k6 => k_is); (case k7 => k_is); (case k8 => k_room); (case k9 => first | exact BindsTo.of_eq rfl | exact binds_K (by k_in) rfl (by k_is) rfl rfl rfl | fail "x_enter: no rule for these arguments"); (case kB => exact locs rfl); (case c1 => decide); (case c2 => exact rfl); (case c3 => exact rfl); (case c4 => exact rfl); intro g' L' h' FG' F' N' B' X' T' l1; (try k_lt l1); (try dsimp only); (try k_lift B')))))
local macro_rules | `(tactic| walk_at "call ref") => `(tactic| (k_here; k_dflt (refine' x_call_mw ?k1 ?k2 ?k3 ?k4 ?k5 ?k6 ?k7 ?k8 ?_; (case k1 => k_asm); (case k2 => k_asm); (case k3 => k_asm); (case k4 => k_mem); (case k5 => k_mem); (case k6 => k_is); (case k7 => exact Nat.le_of_ble_eq_true rfl); (case k8 => (intro t9; k_upd)); k_whole; intro t' h' F' N' l1; (try k_lt l1); (try dsimp only at N'); (try k_sweep))))
local macro_rules | `(tactic| walk_at "getMethod ref") => `(tactic| (k_here; k_dflt (refine' x_method ?k1 ?k2 ?k3 ?k4 ?k5 ?k6 ?k7 ?k8 ?k9 ?_; (case k1 => k_asm); (case k2 => k_asm); (case k3 => k_asm); (case k4 => k_mem); (case k5 => k_inst); (case k6 => k_is); (case k7 => ks_is); (case k8 => k_is); (case k9 => decide); k_whole; intro q' h' F' N' l1; (try k_lt l1))))
local macro_rules | `(tactic| walk_at "callWith ref") => `(tactic| (k_here; k_dflt (refine' x_callWith_mw ?k1 ?k2 ?_; (case k1 => k_asm); (case k2 => k_mem); k_whole)))
local macro_rules | `(tactic| walk_at "XMw ref") => `(tactic| (k_dflt (refine' xMw_of ?k1 ?k2; (case k1 => k_asm); (case k2 => k_mem))))
local macro_rules | `(tactic| walk_at "setAttr ref") => `(tactic| (k_here; k_dflt (first
  | (refine' x_set0 ?k1 ?k2 ?k3 ?k4 ?k5 ?k6 ?k7 ?k8 ?_; (case k1 => k_asm); (case k2 => k_asm); (case k3 => k_asm); (case k4 => k_mem); (case k5 => k_is); (case k6 => kernel_rfl); (case k7 => k_is); (case k8 => (intro d9; k_upd)); k_whole; intro d' h' F' N' l1; (try k_lt l1); (try dsimp only at N'); (try k_sweep))
  | (refine' x_set1 ?k1 ?k2 ?k3 ?k4 ?k5 ?k6 ?k7 ?k8 ?k9 ?k10 ?k11 ?k12 ?_; (case k1 => k_asm); (case k2 => k_asm); (case k3 => k_asm); (case k4 => k_mem); (case k5 => k_mem); (case k6 => k_is); (case k7 => kernel_rfl); (case k8 => k_is); (case k9 => k_get); (case k10 => k_put); (case k11 => k_upd); (case k12 => exact Nat.le_of_ble_eq_true rfl); k_whole; intro h' F' N'; (try k_sweep)))))
local macro_rules | `(tactic| walk_at "call type:str") => `(tactic| (k_here; (with_reducible show wpAny _ _ (call (Value.type "str") [Value.ref _]) _ _ _); k_dflt (refine' x_str ?k1 ?k2 ?k3 ?k4 ?k5 ?k6 ?_; (case k1 => k_units); (case k2 => k_in); (case k3 => exact (News.get (by k_asm) (by k_mem))); (case k4 => exact (News.get (by k_asm) (by k_mem))); (case k5 => first | assumption | k_is); (case k6 => first | assumption | k_is); k_whole)))
local macro_rules | `(tactic| walk_at "wpAt") => `(tactic| (dsimp only; ks_step "execs cons"; refine ks_wpAt_execs_cons ?_))
local macro_rules | `(tactic| walk_at "wpAt") => `(tactic| ((try dsimp only); k_dflt (ks_step "exec Expr"; refine ks_wpAt_Expr_any ?_)))
local macro_rules | `(tactic| walk_at "wpAt") => `(tactic| ((try dsimp only); k_dflt (ks_step "eval Call"; refine ks_wpAt_MethodCall ?_)))

structure XOk (K : Frag) (C : Addr) : Prop where
  ga : findIn K (.ref C) "__getattribute__" = some (some (.builtin "BaseException.__getattribute__"))
  gh : findIn K (.ref C) "__getattr__" = some none
  be : mroIn K C (.type "BaseException") = some true
  ob : mroIn K C (.type "object") = some true
  ty : typeIn K (.ref C) = some (.type "type")
  st : findIn K (.ref C) "__str__" = some (some (.builtin "BaseException.__str__"))
  cl : findIn K (.ref C) "__class__" = some (some (.builtin "object.__class__"))
  gs : specialIn K (.builtin "object.__class__") "__get__" = some (some (.builtin "getset_descriptor.__get__"))
  tk : takesIn K (.builtin "object.__class__") = some true
  rl : mroIn K C (.ref 24) = some true
theorem XOk.cls {K : Frag} {C : Addr} (O : XOk K C) : (clsIn K C).isSome = true := by
  obtain ⟨cd, hc, _⟩ := Option.bind_eq_some_iff.mp O.be
  rw [hc]; rfl
def XIs (K : Frag) (C D : Addr) (b : Bool) : Prop := (b = true ∧ isIn K (.ref C) D = true) ∨ (b = false ∧ kin_not K C D = true)
theorem x_isinst {prog : Program} {w : World} {A : Around} {K : Frag} {C D x : Addr} {s : Shared} {b : Bool} {E Q : Value → Shared → Prop} {ox od : Obj} (X : K.In s.heap) (I : PySem.W.InstAt s.heap x ox C (some od)) (O : XOk K C) (h1 : XIs K C D b) (h : ∀ tk, Q (.bool b) { s with toks := tk }) :
    wpAny (model prog w) A (call (.builtin "isinstance") [.ref x, .ref D]) Q E s := by
  rcases h1 with ⟨rfl, e⟩ | ⟨rfl, e⟩
  · exact isi_call X (fun M => I.type) e (by intro q; cases q) (h s.toks)
  · exact x_notinst X I e O.cls O.ga O.gh O.be (findObj_data O.cls O.cl O.gs O.tk) O.ob (h _)
local macro_rules | `(tactic| walk_at "call builtin:isinstance") => `(tactic| (k_here; (with_reducible show wpAny _ _ (call _ [Value.ref _, Value.ref _]) _ _ _); k_dflt (refine' x_isinst ?k1 ?k2 ?k3 ?k4 ?_; (case k1 => k_in); (case k2 => k_inst); (case k3 => assumption); (case k4 => assumption); k_whole); intro tk'))
local macro_rules | `(tactic| walk_at "call type:str") => `(tactic| (k_here; (with_reducible show wpAny _ _ (call (Value.type "str") [Value.ref _]) _ _ _); k_dflt (refine' x_str ?k1 ?k2 ?k3 ?k4 ?k5 ?k6 ?_; (case k1 => k_units); (case k2 => k_in); (case k3 => exact (News.get (by k_asm) (by k_mem))); (case k4 => exact (News.get (by k_asm) (by k_mem))); (case k5 => exact XOk.st (by assumption)); (case k6 => exact XOk.be (by assumption)); k_whole)))
local macro_rules | `(tactic| walk_at "exec Raise some none") => `(tactic| (k_here; k_dflt (refine' x_raise ?k1 ?k2 ?k3 ?k4 ?k5 ?k6 ?k7 ?k8 ?_; (case k1 => exact rfl); (case k2 => k_asm); (case k3 => k_asm); (case k4 => k_asm); (case k5 => exact rfl); (case k6 => k_mem); (case k7 => exact XOk.be (by assumption)); (case k8 => exact XOk.ty (by assumption)); k_whole)))
local macro_rules | `(tactic| walk_at "noteFrame ref") => `(tactic| (k_here; k_dflt (refine' x_caught ?k1 ?k2 ?k3 ?k4 ?k5 ?k6 ?k7 ?k8 ?k9 ?k10 ?k11 ?k12 ?k13 ?_; (case k5 => assumption); (case k1 => k_asm); (case k2 => k_asm); (case k3 => first | with_reducible assumption | (refine' news_of ?n1 ?n2; (case n1 => k_asm); (case n2 => (intro p9 hp9; k_mem)))); (case k4 => k_mem); (case k6 => k_asm); (case k7 => k_asm); (case k8 => k_asm); (case k9 => k_is); (case k10 => kernel_rfl); (case k11 => k_is); (case k12 => k_is); (case k13 => exact XOk.rl (by assumption)); k_whole); intro h' g' T' tk' S' F' N' B' X' P' D'))
local macro_rules | `(tactic| walk_at "leaving ref") => `(tactic| (k_here; k_dflt (refine' x_leave ?k1 ?k0 ?k2 ?k3 ?k4 ?k5 ?_; (case k4 => exact rfl); (case k5 => exact rfl); (case k0 => assumption); (case k2 => assumption); (case k1 => assumption); (case k3 => k_asm); k_whole); intro h' S' R' U'; (try dsimp only at S' R' U' ⊢); (try dsimp only [InitBack])))

section
variable {w : World} {p : Program} {loose : List Str} {mean : ExcName → Option Value} {mg mb : Str → Option Value} {h₀ : Heap} {ns : List (Str × NameKind)} {L fa : Addr} {cd : Value} {m : Str → Option Value} {news : List (Addr × Obj)} {s : Shared} {Q E : Value → Shared → Prop}

theorem stands_call (B : Below callerA h₀ [] h₀) (F : Fr h₀ L s.heap m) (X : (hd.heap_39 w.params).In h₀) (N : News h₀ L s.heap news) (T : Top p loose mean mg mb h₀)
    {C x t d r : Addr} {od : Obj} {X₀ : Str} {u u2 : Tok} {b1 b2 b3 b4 b5 b6 : Bool} {news' : Value → List (Addr × Obj)} (hX : X₀.length ≤ 10000) (O : XOk (hd.heap_39 w.params) C) (i1 : XIs (hd.heap_39 w.params) C 46 b1) (i2 : XIs (hd.heap_39 w.params) C 67 b2) (i3 : XIs (hd.heap_39 w.params) C 88 b3) (i4 : XIs (hd.heap_39 w.params) C 110 b4) (i5 : XIs (hd.heap_39 w.params) C 131 b5) (i6 : XIs (hd.heap_39 w.params) C 153 b6) (i7 : XIs (hd.heap_39 w.params) C 24 true)
    (hx : (x, exObj C t (some d) .none) ∈ news) (ht : (t, tupObj [.str X₀ u]) ∈ news) (hdd : (d, od) ∈ news) (hr : (r, tupObj [.bool b1, .bool b2, .bool b3, .bool b4, .bool b5, .bool b6]) ∈ news)
    (U : ∀ tb, Upd x (exObj C t (some d) .none) (exObj C t (some d) tb) news (news' tb))
    (hret : ∀ {T : Addr} {h' : Heap} {tk' : Nat}, Fr h₀ L h' m → News h₀ L h' (news' (.ref T)) → Q (.bool true) { s with heap := h', toks := tk' }) :
    wpAny (model PySem.Challenge.rw_ej5032_01.row.prog w) (lawA ns L fa cd) (call (.ref 169) [.ref x, .str X₀ u2, .ref r]) Q E s := by
  refine wpAny_call ?_
  refine' code_defS0 B F X N T ?kA ?k6 ?k7 ?k8 ?k9 ?kB ?_ ?c1 ?c2 ?c3 ?c4 ?c5
  case kA => exact rfl
  case k6 => k_is
  case k7 => k_is
  case k8 => k_room
  case k9 => exact BindsTo.of_eq rfl
  case kB => exact locs rfl
  case c1 => exact rfl
  case c2 => exact rfl
  case c3 => exact rfl
  case c4 => exact rfl
  case c5 => decide
  intro g' L' h' FG' F' N' B' X' T' D'
  (try dsimp only)
  k_fold
  k_steps
  · rename (X₀ != X₀) = true => hne
    simp at hne
  · exact hret (by k_asm) (by k_asm)
end
end
end Mine

namespace Mine
section
open PySem PySem.W PyProof.Rows PySem.Spec PySem.Calls
set_option maxRecDepth 100000
set_option maxHeartbeats 4000000
local macro_rules | `(tactic| k_mem) => `(tactic| (show (_ : Addr × Obj) ∈ (_ : List (Addr × Obj)); with_reducible assumption))
local macro_rules | `(tactic| k_all) => `(tactic| first | exact allLt_ne (by assumption) (leN (by (try dsimp only); omega)) | exact memLt_ne (by assumption) (leN (by (try dsimp only); omega)))
local macro_rules | `(tactic| k_inst) => `(tactic| first | (refine' exAt ?N ?h1 ?h2; (case N => k_asm); (case h1 => k_mem); (case h2 => k_mem)) | (refine' exAt0 ?N ?h1; (case N => k_asm); (case h1 => k_mem)))
local macro_rules | `(tactic| walk_at "call ref") => `(tactic| (k_here; k_dflt (refine' x_call ?k1 ?k2 ?k3 ?k4 ?k5 ?k6 ?kz ?_; (case k1 => k_asm); (case k2 => k_asm); (case k3 => k_asm); (case k4 => kernel_rfl); (case k5 => k_is); (case k6 => k_is); (case kz => exact Nat.le_of_ble_eq_true rfl); k_whole; intro x' t' h' F' N' l1 l2; (try k_lt l1); (try k_lt2 l2); (refine' ks_code_super ?k1 ?k2 ?k3 ?k4 ?k5 ?kA ?kF ?kK ?k6 ?k7 ?k8 ?k9 ?kB ?_ ?c1 ?c2 ?c3 ?c4; (case kA => exact rfl); (case kF => exact rfl); (case kK => exact rfl); (case k1 => k_asm); (case k2 => k_asm); (case k3 => k_asm); (case k4 => k_asm); (case k5 => k_asm); (case k6 => k_is); (case k7 => k_is); (case k8 => k_room); (case k9 => first | exact BindsTo.of_eq rfl | exact binds_K (by k_in) rfl (by k_is) rfl rfl rfl | fail "x_enter: no rule for these arguments"); (case kB => exact locs rfl); (case c1 => decide); (case c2 => exact rfl); (case c3 => exact rfl); (case c4 => exact rfl); intro g' L' h' FG' F' N' B' X' T' l1; (try k_lt l1); (try dsimp only); (try k_lift B')))))
local macro_rules | `(tactic| walk_at "call ref") => `(tactic| (k_here; k_dflt (refine' x_call_mw ?k1 ?k2 ?k3 ?k4 ?k5 ?k6 ?k7 ?k8 ?_; (case k1 => k_asm); (case k2 => k_asm); (case k3 => k_asm); (case k4 => k_mem); (case k5 => k_mem); (case k6 => k_is); (case k7 => exact Nat.le_of_ble_eq_true rfl); (case k8 => (intro t9; k_upd)); k_whole; intro t' h' F' N' l1; (try k_lt l1); (try dsimp only at N'); (try k_sweep))))
local macro_rules | `(tactic| walk_at "getMethod ref") => `(tactic| (k_here; k_dflt (refine' x_method ?k1 ?k2 ?k3 ?k4 ?k5 ?k6 ?k7 ?k8 ?k9 ?_; (case k1 => k_asm); (case k2 => k_asm); (case k3 => k_asm); (case k4 => k_mem); (case k5 => k_inst); (case k6 => k_is); (case k7 => ks_is); (case k8 => k_is); (case k9 => decide); k_whole; intro q' h' F' N' l1; (try k_lt l1))))
local macro_rules | `(tactic| walk_at "callWith ref") => `(tactic| (k_here; k_dflt (refine' x_callWith_mw ?k1 ?k2 ?_; (case k1 => k_asm); (case k2 => k_mem); k_whole)))
local macro_rules | `(tactic| walk_at "XMw ref") => `(tactic| (k_dflt (refine' xMw_of ?k1 ?k2; (case k1 => k_asm); (case k2 => k_mem))))
local macro_rules | `(tactic| walk_at "setAttr ref") => `(tactic| (k_here; k_dflt (first
  | (refine' x_set0 ?k1 ?k2 ?k3 ?k4 ?k5 ?k6 ?k7 ?k8 ?_; (case k1 => k_asm); (case k2 => k_asm); (case k3 => k_asm); (case k4 => k_mem); (case k5 => k_is); (case k6 => kernel_rfl); (case k7 => k_is); (case k8 => (intro d9; k_upd)); k_whole; intro d' h' F' N' l1; (try k_lt l1); (try dsimp only at N'); (try k_sweep))
  | (refine' x_set1 ?k1 ?k2 ?k3 ?k4 ?k5 ?k6 ?k7 ?k8 ?k9 ?k10 ?k11 ?k12 ?_; (case k1 => k_asm); (case k2 => k_asm); (case k3 => k_asm); (case k4 => k_mem); (case k5 => k_mem); (case k6 => k_is); (case k7 => kernel_rfl); (case k8 => k_is); (case k9 => k_get); (case k10 => k_put); (case k11 => k_upd); (case k12 => exact Nat.le_of_ble_eq_true rfl); k_whole; intro h' F' N'; (try k_sweep)))))
local macro_rules | `(tactic| walk_at "call type:str") => `(tactic| (k_here; (with_reducible show wpAny _ _ (call (Value.type "str") [Value.ref _]) _ _ _); k_dflt (refine' x_str ?k1 ?k2 ?k3 ?k4 ?k5 ?k6 ?_; (case k1 => k_units); (case k2 => k_in); (case k3 => exact (News.get (by k_asm) (by k_mem))); (case k4 => exact (News.get (by k_asm) (by k_mem))); (case k5 => first | assumption | k_is); (case k6 => first | assumption | k_is); k_whole)))
local macro_rules | `(tactic| walk_at "wpAt") => `(tactic| (dsimp only; ks_step "execs cons"; refine ks_wpAt_execs_cons ?_))
local macro_rules | `(tactic| walk_at "wpAt") => `(tactic| ((try dsimp only); k_dflt (ks_step "exec Expr"; refine ks_wpAt_Expr_any ?_)))
local macro_rules | `(tactic| walk_at "wpAt") => `(tactic| ((try dsimp only); k_dflt (ks_step "eval Call"; refine ks_wpAt_MethodCall ?_)))
local macro_rules | `(tactic| walk_at "call builtin:isinstance") => `(tactic| (k_here; (with_reducible show wpAny _ _ (call _ [Value.ref _, Value.ref _]) _ _ _); k_dflt (refine' x_isinst ?k1 ?k2 ?k3 ?k4 ?_; (case k1 => k_in); (case k2 => k_inst); (case k3 => assumption); (case k4 => assumption); k_whole); intro tk'))
local macro_rules | `(tactic| walk_at "call type:str") => `(tactic| (k_here; (with_reducible show wpAny _ _ (call (Value.type "str") [Value.ref _]) _ _ _); k_dflt (refine' x_str ?k1 ?k2 ?k3 ?k4 ?k5 ?k6 ?_; (case k1 => k_units); (case k2 => k_in); (case k3 => exact (News.get (by k_asm) (by k_mem))); (case k4 => exact (News.get (by k_asm) (by k_mem))); (case k5 => exact XOk.st (by assumption)); (case k6 => exact XOk.be (by assumption)); k_whole)))
local macro_rules | `(tactic| walk_at "exec Raise some none") => `(tactic| (k_here; k_dflt (refine' x_raise ?k1 ?k2 ?k3 ?k4 ?k5 ?k6 ?k7 ?k8 ?_; (case k1 => exact rfl); (case k2 => k_asm); (case k3 => k_asm); (case k4 => k_asm); (case k5 => exact rfl); (case k6 => k_mem); (case k7 => exact XOk.be (by assumption)); (case k8 => exact XOk.ty (by assumption)); k_whole)))
local macro_rules | `(tactic| walk_at "noteFrame ref") => `(tactic| (k_here; k_dflt (refine' x_caught ?k1 ?k2 ?k3 ?k4 ?k5 ?k6 ?k7 ?k8 ?k9 ?k10 ?k11 ?k12 ?k13 ?_; (case k5 => assumption); (case k1 => k_asm); (case k2 => k_asm); (case k3 => first | with_reducible assumption | (refine' news_of ?n1 ?n2; (case n1 => k_asm); (case n2 => (intro p9 hp9; k_mem)))); (case k4 => k_mem); (case k6 => k_asm); (case k7 => k_asm); (case k8 => k_asm); (case k9 => k_is); (case k10 => kernel_rfl); (case k11 => k_is); (case k12 => k_is); (case k13 => exact XOk.rl (by assumption)); k_whole); intro h' g' T' tk' S' F' N' B' X' P' D'))
local macro_rules | `(tactic| walk_at "leaving ref") => `(tactic| (k_here; k_dflt (refine' x_leave ?k1 ?k0 ?k2 ?k3 ?k4 ?k5 ?_; (case k4 => exact rfl); (case k5 => exact rfl); (case k0 => assumption); (case k2 => assumption); (case k1 => assumption); (case k3 => k_asm); k_whole); intro h' S' R' U'; (try dsimp only at S' R' U' ⊢); (try dsimp only [InitBack])))

section
variable {w : World} {p : Program} {loose : List Str} {mean : ExcName → Option Value} {mg mb : Str → Option Value} {h₀ : Heap} {ns : List (Str × NameKind)} {L fa : Addr} {cd : Value} {m : Str → Option Value} {news : List (Addr × Obj)} {s : Shared} {Q E : Value → Shared → Prop}

theorem nm_a (B : Below callerA h₀ [] h₀) (F : Fr h₀ L s.heap m) (X : (hd.heap_39 w.params).In h₀) (N : News h₀ L s.heap news) (T : Top p loose mean mg mb h₀)
    {v vi : Value} {t : Tok}
    (hret : ∀ {h' : Heap} {tk' : Nat}, Fr h₀ L h' m → News h₀ L h' news → Q (.bool true) { s with heap := h', toks := tk' }) :
    wpAny (model PySem.Challenge.rw_ej5032_01.row.prog w) (lawA ns L fa cd) (call (.ref 190) [.str (Str.ofString "") t, v, vi, .none, .bool true]) Q E s := by
  refine wpAny_call ?_
  refine' code_defS0 B F X N T ?kA ?k6 ?k7 ?k8 ?k9 ?kB ?_ ?c1 ?c2 ?c3 ?c4 ?c5
  case kA => exact rfl
  case k6 => k_is
  case k7 => k_is
  case k8 => k_room
  case k9 => exact BindsTo.of_eq rfl
  case kB => exact locs rfl
  case c1 => exact rfl
  case c2 => exact rfl
  case c3 => exact rfl
  case c4 => exact rfl
  case c5 => decide
  intro g' L' h' FG' F' N' B' X' T' D'
  (try dsimp only)
  k_fold
  k_steps
  refine' hret ?cF ?cN
  case cF => k_asm
  case cN =>
    refine' news_of ?n1 ?n2
    case n1 => k_asm
    case n2 => (intro p9 hp9; k_mem)

theorem nm_b (B : Below callerA h₀ [] h₀) (F : Fr h₀ L s.heap m) (X : (hd.heap_39 w.params).In h₀) (N : News h₀ L s.heap news) (T : Top p loose mean mg mb h₀)
    {v vi : Value}
    (hret : ∀ {h' : Heap} {tk' : Nat}, Fr h₀ L h' m → News h₀ L h' news → Q (.bool true) { s with heap := h', toks := tk' }) :
    wpAny (model PySem.Challenge.rw_ej5032_01.row.prog w) (lawA ns L fa cd) (call (.ref 190) [.none, v, vi, .none, .bool false]) Q E s := by
  refine wpAny_call ?_
  refine' code_defS0 B F X N T ?kA ?k6 ?k7 ?k8 ?k9 ?kB ?_ ?c1 ?c2 ?c3 ?c4 ?c5
  case kA => exact rfl
  case k6 => k_is
  case k7 => k_is
  case k8 => k_room
  case k9 => exact BindsTo.of_eq rfl
  case kB => exact locs rfl
  case c1 => exact rfl
  case c2 => exact rfl
  case c3 => exact rfl
  case c4 => exact rfl
  case c5 => decide
  intro g' L' h' FG' F' N' B' X' T' D'
  (try dsimp only)
  k_fold
  k_steps
  refine' hret ?cF ?cN
  case cF => k_asm
  case cN =>
    refine' news_of ?n1 ?n2
    case n1 => k_asm
    case n2 => (intro p9 hp9; k_mem)

theorem nm_c (B : Below callerA h₀ [] h₀) (F : Fr h₀ L s.heap m) (X : (hd.heap_39 w.params).In h₀) (N : News h₀ L s.heap news) (T : Top p loose mean mg mb h₀)
    {v : Value} {k : Int} {u : Tok}
    (hret : ∀ {h' : Heap} {tk' : Nat}, Fr h₀ L h' m → News h₀ L h' news → Q (.bool true) { s with heap := h', toks := tk' }) :
    wpAny (model PySem.Challenge.rw_ej5032_01.row.prog w) (lawA ns L fa cd) (call (.ref 190) [.none, v, .none, .int k u, .bool false]) Q E s := by
  refine wpAny_call ?_
  refine' code_defS0 B F X N T ?kA ?k6 ?k7 ?k8 ?k9 ?kB ?_ ?c1 ?c2 ?c3 ?c4 ?c5
  case kA => exact rfl
  case k6 => k_is
  case k7 => k_is
  case k8 => k_room
  case k9 => exact BindsTo.of_eq rfl
  case kB => exact locs rfl
  case c1 => exact rfl
  case c2 => exact rfl
  case c3 => exact rfl
  case c4 => exact rfl
  case c5 => decide
  intro g' L' h' FG' F' N' B' X' T' D'
  (try dsimp only)
  k_fold
  k_steps
  refine' hret ?cF ?cN
  case cF => k_asm
  case cN =>
    refine' news_of ?n1 ?n2
    case n1 => k_asm
    case n2 => (intro p9 hp9; k_mem)

theorem nm_d (B : Below callerA h₀ [] h₀) (F : Fr h₀ L s.heap m) (X : (hd.heap_39 w.params).In h₀) (N : News h₀ L s.heap news) (T : Top p loose mean mg mb h₀)
    {v : Value} {k : Int} {u : Tok}
    (hret : ∀ {h' : Heap} {tk' : Nat}, Fr h₀ L h' m → News h₀ L h' news → Q (.bool true) { s with heap := h', toks := tk' }) :
    wpAny (model PySem.Challenge.rw_ej5032_01.row.prog w) (lawA ns L fa cd) (call (.ref 190) [.none, v, .none, .int k u, .bool true]) Q E s := by
  refine wpAny_call ?_
  refine' code_defS0 B F X N T ?kA ?k6 ?k7 ?k8 ?k9 ?kB ?_ ?c1 ?c2 ?c3 ?c4 ?c5
  case kA => exact rfl
  case k6 => k_is
  case k7 => k_is
  case k8 => k_room
  case k9 => exact BindsTo.of_eq rfl
  case kB => exact locs rfl
  case c1 => exact rfl
  case c2 => exact rfl
  case c3 => exact rfl
  case c4 => exact rfl
  case c5 => decide
  intro g' L' h' FG' F' N' B' X' T' D'
  (try dsimp only)
  k_fold
  k_steps
  refine' hret ?cF ?cN
  case cF => k_asm
  case cN =>
    refine' news_of ?n1 ?n2
    case n1 => k_asm
    case n2 => (intro p9 hp9; k_mem)
end
end
end Mine

namespace Mine
section
open PySem PySem.W PyProof.Rows PySem.Spec PySem.Calls
set_option maxRecDepth 100000
set_option maxHeartbeats 4000000

structure XRow (K : Frag) (C : Addr) (b1 b2 b3 b4 b5 b6 : Bool) : Prop where
  ok : XOk K C
  i1 : XIs K C 46 b1
  i2 : XIs K C 67 b2
  i3 : XIs K C 88 b3
  i4 : XIs K C 110 b4
  i5 : XIs K C 131 b5
  i6 : XIs K C 153 b6
  i7 : XIs K C 24 true
theorem row_46 (w : World) : XRow (hd.heap_39 w.params) 46 true false false false false false := by
  constructor
  · constructor <;> k_is
  · exact .inl ⟨rfl, by k_is⟩
  · exact .inr ⟨rfl, by kin_no⟩
  · exact .inr ⟨rfl, by kin_no⟩
  · exact .inr ⟨rfl, by kin_no⟩
  · exact .inr ⟨rfl, by kin_no⟩
  · exact .inr ⟨rfl, by kin_no⟩
  · exact .inl ⟨rfl, by k_is⟩
theorem row_67 (w : World) : XRow (hd.heap_39 w.params) 67 false true false false false false := by
  constructor
  · constructor <;> k_is
  · exact .inr ⟨rfl, by kin_no⟩
  · exact .inl ⟨rfl, by k_is⟩
  · exact .inr ⟨rfl, by kin_no⟩
  · exact .inr ⟨rfl, by kin_no⟩
  · exact .inr ⟨rfl, by kin_no⟩
  · exact .inr ⟨rfl, by kin_no⟩
  · exact .inl ⟨rfl, by k_is⟩
theorem row_88 (w : World) : XRow (hd.heap_39 w.params) 88 false false true false false false := by
  constructor
  · constructor <;> k_is
  · exact .inr ⟨rfl, by kin_no⟩
  · exact .inr ⟨rfl, by kin_no⟩
  · exact .inl ⟨rfl, by k_is⟩
  · exact .inr ⟨rfl, by kin_no⟩
  · exact .inr ⟨rfl, by kin_no⟩
  · exact .inr ⟨rfl, by kin_no⟩
  · exact .inl ⟨rfl, by k_is⟩
theorem row_110 (w : World) : XRow (hd.heap_39 w.params) 110 false false true true false false := by
  constructor
  · constructor <;> k_is
  · exact .inr ⟨rfl, by kin_no⟩
  · exact .inr ⟨rfl, by kin_no⟩
  · exact .inl ⟨rfl, by k_is⟩
  · exact .inl ⟨rfl, by k_is⟩
  · exact .inr ⟨rfl, by kin_no⟩
  · exact .inr ⟨rfl, by kin_no⟩
  · exact .inl ⟨rfl, by k_is⟩
theorem row_131 (w : World) : XRow (hd.heap_39 w.params) 131 false false false false true false := by
  constructor
  · constructor <;> k_is
  · exact .inr ⟨rfl, by kin_no⟩
  · exact .inr ⟨rfl, by kin_no⟩
  · exact .inr ⟨rfl, by kin_no⟩
  · exact .inr ⟨rfl, by kin_no⟩
  · exact .inl ⟨rfl, by k_is⟩
  · exact .inr ⟨rfl, by kin_no⟩
  · exact .inl ⟨rfl, by k_is⟩
theorem row_153 (w : World) : XRow (hd.heap_39 w.params) 153 false false false false true true := by
  constructor
  · constructor <;> k_is
  · exact .inr ⟨rfl, by kin_no⟩
  · exact .inr ⟨rfl, by kin_no⟩
  · exact .inr ⟨rfl, by kin_no⟩
  · exact .inr ⟨rfl, by kin_no⟩
  · exact .inl ⟨rfl, by k_is⟩
  · exact .inl ⟨rfl, by k_is⟩
  · exact .inl ⟨rfl, by k_is⟩

section
variable {prog : Program} {w : World} {A : Around} {s : Shared} {K : Frag} {h₀ : Heap} {L x C : Addr} {m : Str → Option Value}
theorem x_own {E Q : Value → Shared → Prop} {ox : Obj} {es : List DictEntry} {n : Nat} {name : Str} {v : Value} {expr : Bool} {attr : Option Value} (F : Fr h₀ L s.heap m) (X₀ : K.In h₀) (I : InstAt s.heap x ox C (some (dictOf es n)))
    (hga : findIn K (.ref C) "__getattribute__" = some (some (.builtin "BaseException.__getattribute__"))) (hgh : findIn K (.ref C) "__getattr__" = some none) (hb : mroIn K C (.type "BaseException") = some true)
    (hh : hasDictIn K C = true) (ha : findIn K (.ref C) name = some attr) (hn : noGet K attr = true) (hl : getL name es = some (some v)) (hv : handedIn v = true) (h : Q v { s with toks := s.toks + 1 }) :
    wpAny (model prog w) A (getAttr (.ref x) name expr) Q E s :=
  x_get (X₀.keeps F.keep) I hga hgh hb (findObj_own hh ha hn hl) hv h
end
section
variable {w : World} {p : Program} {loose : List Str} {mean : ExcName → Option Value} {mg mb : Str → Option Value} {h₀ : Heap} {ns : List (Str × NameKind)} {L fa : Addr} {cd : Value} {m : Str → Option Value} {news : List (Addr × Obj)} {s : Shared} {Q E : Value → Shared → Prop}
theorem stands {C x t d r : Addr} {od : Obj} {X₀ : Str} {u u2 : Tok} {b1 b2 b3 b4 b5 b6 : Bool} {news' : Value → List (Addr × Obj)}
    (B : Below callerA h₀ [] h₀) (F : Fr h₀ L s.heap m) (X : (hd.heap_39 w.params).In h₀) (N : News h₀ L s.heap news) (T : Top p loose mean mg mb h₀)
    (hx : (x, exObj C t (some d) .none) ∈ news) (ht : (t, tupObj [.str X₀ u]) ∈ news) (hdd : (d, od) ∈ news) (hr : (r, tupObj [.bool b1, .bool b2, .bool b3, .bool b4, .bool b5, .bool b6]) ∈ news)
    (O : XRow (hd.heap_39 w.params) C b1 b2 b3 b4 b5 b6) (hX : X₀.length ≤ 10000)
    (U : ∀ tb, Upd x (exObj C t (some d) .none) (exObj C t (some d) tb) news (news' tb))
    (hret : ∀ {T : Addr} {h' : Heap} {tk' : Nat}, Fr h₀ L h' m → News h₀ L h' (news' (.ref T)) → Q (.bool true) { s with heap := h', toks := tk' }) :
    wpAny (model PySem.Challenge.rw_ej5032_01.row.prog w) (lawA ns L fa cd) (call (.ref 169) [.ref x, .str X₀ u2, .ref r]) Q E s :=
  stands_call B F X N T hX O.ok O.i1 O.i2 O.i3 O.i4 O.i5 O.i6 O.i7 hx ht hdd hr U hret
end
end
end Mine

namespace Mine
section
open PySem PySem.W PyProof.Rows PySem.Spec PySem.Calls
set_option maxRecDepth 100000
set_option maxHeartbeats 4000000

theorem wrapS_le {k : Int} {m : Str} {n : Nat} (h0 : 0 ≤ k) (h1 : k < 6) (hn : 60 ≤ n) (h : m.length ≤ n - 60) : (wrapS k m).length ≤ n := by
  have := wrapS_len (m := m) h0 h1
  omega
theorem wrapD_le {k : Int} {m : Str} {n : Nat} (h0 : 0 ≤ k) (h1 : k < 6) (hn : 60 ≤ n) (h : m.length ≤ n - 60) : (wrapD k m).length ≤ n := by
  have := wrapD_len (m := m) h0 h1
  omega
theorem x_drop {h₀ h : Heap} {L : Addr} {news : List (Addr × Obj)} (k : Nat) (N : News h₀ L h news) : News h₀ L h (news.drop k) := fun p hp => N p (List.mem_of_mem_drop hp)
theorem x_ne3 {x t d : Addr} {o1 o2 : Obj} {l : List (Addr × Obj)} (h1 : ∀ p ∈ l, p.1 < x) (h2 : x < t) (h3 : t < d) : ∀ p ∈ ((t, o1) :: (d, o2) :: l), p.1 ≠ x :=
  List.forall_mem_cons.mpr ⟨Nat.ne_of_gt h2, List.forall_mem_cons.mpr ⟨Nat.ne_of_gt (Nat.lt_trans h2 h3), fun p hp => Nat.ne_of_lt (h1 p hp)⟩⟩
inductive XDel (I : Addr) (it : Obj) : List (Addr × Obj) → List (Addr × Obj) → Prop
  | here {r} : XDel I it ((I, it) :: r) r
  | skip {p r r'} : XDel I it r r' → XDel I it (p :: r) (p :: r')
theorem XDel.mem {I : Addr} {it : Obj} : ∀ {l l' : List (Addr × Obj)}, XDel I it l l' → ∀ p ∈ (I, it) :: l', p ∈ l
  | _, _, .here, _, h => h
  | _, _, .skip D, p, h => by
    rcases List.mem_cons.mp h with rfl | h
    · exact .tail _ (D.mem _ (.head _))
    · rcases List.mem_cons.mp h with rfl | h
      · exact .head _
      · exact .tail _ (D.mem _ (.tail _ h))
inductive XOff (I : Addr) (it : Obj) : List (Addr × Obj) → Prop
  | tail {l} : (∀ p ∈ l, p.1 < I) → XOff I it l
  | cons {p l} : p.2.cls ≠ it.cls → XOff I it l → XOff I it (p :: l)
theorem XOff.at {I : Addr} {it : Obj} : ∀ {l : List (Addr × Obj)}, XOff I it l → ∀ p ∈ l, p.1 ≠ I ∨ p.2.cls ≠ it.cls
  | _, .tail h, p, hp => .inl (Nat.ne_of_lt (h p hp))
  | _, .cons h O, p, hp => by
    rcases List.mem_cons.mp hp with rfl | hp
    · exact .inr h
    · exact O.at p hp
theorem x_unr {h₀ : Heap} {L I : Addr} {it : Obj} {rest : (Str → Option Value) → List (Addr × Obj) → Prop} {s₁ : Shared} {h' : Heap} {tk : Nat} {m' : Str → Option Value} {all news' : List (Addr × Obj)} (F : Fr h₀ L h' m') (N : News h₀ L h' all)
    (D : XDel I it all news') (O : XOff I it news') (r : rest m' news') : UnrEnd h₀ L s₁ I it rest { s₁ with heap := h', toks := tk } :=
  UnrEnd.intro F N news' D.mem (fun p hp e => by
    rcases O.at p hp with h | h
    · exact h e
    · have h1 := (N _ (D.mem p (.tail _ hp))).1
      have h2 := (N _ (D.mem _ (.head _))).1
      rw [e] at h1
      exact h (congrArg Obj.cls (Option.some.inj (h1.symm.trans h2)))) r
theorem mod_0 {a : Int} : 0 ≤ a.fmod 6 := Int.fmod_nonneg_of_pos _ (by decide)
theorem mod_6 {a : Int} : a.fmod 6 < 6 := Int.fmod_lt_of_pos _ (by decide)
section
variable {w : World} {p : Program} {loose : List Str} {mean : ExcName → Option Value} {mg mb : Str → Option Value} {h₀ : Heap} {ns : List (Str × NameKind)} {L fa : Addr} {cd : Value} {m : Str → Option Value} {news : List (Addr × Obj)} {s : Shared} {Q E : Value → Shared → Prop}
theorem word_two (B : Below callerA h₀ [] h₀) (F : Fr h₀ L s.heap m) (X : (hd.heap_39 w.params).In h₀) (N : News h₀ L s.heap news) (T : Top p loose mean mg mb h₀)
    {n : Int} {t : Tok}
    (h0 : ∀ (u : Tok) h' tk', Fr h₀ L h' m → News h₀ L h' news → Q (.str (Str.ofString "") u) { s with heap := h', toks := tk' })
    (h1 : ∀ (W : Str) (u : Tok) h' tk', 1 ≤ W.length → W.length ≤ 5 → (W == Str.ofString "") = false → (W != Str.ofString "") = true → Fr h₀ L h' m → News h₀ L h' news → Q (.str W u) { s with heap := h', toks := tk' }) :
    wpAny (model PySem.Challenge.rw_ej5032_01.row.prog w) (lawA ns L fa cd) (call (.ref 176) [.int n t]) Q E s := by
  refine word_call B F X N T fun u h' tk' F' N' => ?_
  by_cases h : n.fmod 5 = 0
  · rw [word_zero h]
    exact h0 u h' tk' F' N'
  · have hp := word_pos h
    have hne : wordOf n ≠ Str.ofString "" := fun e => by
      rw [e] at hp
      revert hp
      decide
    exact h1 _ u h' tk' hp (word_len n) (by simpa using hne) (by simpa using hne) F' N'
end
local macro_rules | `(tactic| k_inst) => `(tactic| first | (refine' exAt ?N ?h1 ?h2; (case N => k_asm); (case h1 => k_mem); (case h2 => k_mem)) | (refine' exAt0 ?N ?h1; (case N => k_asm); (case h1 => k_mem)))
local macro_rules | `(tactic| k_all) => `(tactic| exact x_ne3 (by with_reducible assumption) (by with_reducible assumption) (by with_reducible assumption))
local macro_rules | `(tactic| walk_at "call ref") => `(tactic| (k_here; k_dflt (first
  | ((with_reducible show wpAny _ _ (call (Value.ref 46) _ _) _ _ _); (rename News _ _ _ _ => nX); (replace nX := x_drop 5 nX); (dsimp only [List.drop] at nX); refine' c_enc ?B ?F ?X ?N ?T ?_; (case B => assumption); (case F => k_asm); (case X => k_asm); (case N => k_asm); (case T => assumption); k_whole; intro x' t' d' k0 u' h' tk' F' N' l1 l2 l3; (try k_sweep))
  | ((with_reducible show wpAny _ _ (call (Value.ref 67) _ _) _ _ _); refine' c_dec ?B ?F ?X ?N ?T ?_; (case B => assumption); (case F => k_asm); (case X => k_asm); (case N => k_asm); (case T => assumption); k_whole; intro x' t' d' k0 u' h' tk' F' N' l1 l2 l3; (try k_sweep))
  | ((with_reducible show wpAny _ _ (call (Value.ref 88) _ _) _ _ _); (rename News _ _ _ _ => nX); (replace nX := x_drop 4 nX); (dsimp only [List.drop] at nX); refine' c_ser ?B ?F ?X ?N ?T ?_; (case B => assumption); (case F => k_asm); (case X => k_asm); (case N => k_asm); (case T => assumption); k_whole; intro x' t' d' k0 u' h' tk' F' N' l1 l2 l3; (try k_sweep))
  | ((with_reducible show wpAny _ _ (call (Value.ref 131) _ _) _ _ _); (rename News _ _ _ _ => nX); (replace nX := x_drop 4 nX); (dsimp only [List.drop] at nX); refine' c_des ?B ?F ?X ?N ?T ?_; (case B => assumption); (case F => k_asm); (case X => k_asm); (case N => k_asm); (case T => assumption); k_whole; intro x' t' d' k0 u' h' tk' F' N' l1 l2 l3; (try k_sweep))
  | ((with_reducible show wpAny _ _ (call (Value.ref 110) [Value.str _ _, _] []) _ _ _); (rename News _ _ _ _ => nX); (replace nX := x_drop 1 nX); (dsimp only [List.drop] at nX); refine' ls2 ?B ?F ?X ?N ?T ?_; (case B => assumption); (case F => k_asm); (case X => k_asm); (case N => k_asm); (case T => assumption); k_whole; intro x' t' d' k0 k1 k2 u' h' tk' F' N' l1 l2 l3; (try k_sweep))
  | ((with_reducible show wpAny _ _ (call (Value.ref 110) [Value.str _ _, _, Value.ref _, Value.int _ _] []) _ _ _); (rename News _ _ _ _ => nX); (replace nX := x_drop 3 nX); (dsimp only [List.drop] at nX); refine' ls4 ?B ?F ?X ?N ?T ?_; (case B => assumption); (case F => k_asm); (case X => k_asm); (case N => k_asm); (case T => assumption); k_whole; intro x' t' d' k0 k1 k2 u' h' tk' F' N' l1 l2 l3; (try k_sweep))
  | ((with_reducible show wpAny _ _ (call (Value.ref 110) [] _) _ _ _); (rename News _ _ _ _ => nX); (replace nX := x_drop 3 nX); (dsimp only [List.drop] at nX); refine' lskw ?B ?F ?X ?N ?T ?h0 ?h1 ?hl ?hy ?ht ?hs ?hb ?_; (case B => assumption); (case F => k_asm); (case X => k_asm); (case N => k_asm); (case T => assumption); (case h0 => (first | with_reducible exact mod_0 | with_reducible exact mod_6 | decide | omega)); (case h1 => (first | with_reducible exact mod_0 | with_reducible exact mod_6 | decide | omega)); (case hy => exact List.Mem.head _); (case ht => exact List.Mem.tail _ (List.Mem.head _)); (case hl => ((repeat (first | (with_reducible refine wrapS_le ?za ?zb ?zc ?_; (case za => (first | with_reducible exact mod_0 | with_reducible exact mod_6 | decide | omega)); (case zb => (first | with_reducible exact mod_0 | with_reducible exact mod_6 | decide | omega)); (case zc => omega)) | (with_reducible refine wrapD_le ?za ?zb ?zc ?_; (case za => (first | with_reducible exact mod_0 | with_reducible exact mod_6 | decide | omega)); (case zb => (first | with_reducible exact mod_0 | with_reducible exact mod_6 | decide | omega)); (case zc => omega)))); (first | omega | decide))); (case hs => k_is); (case hb => k_is); k_whole; intro x' t' d' k0 k1 k2 u' h' tk' F' N' l1 l2 l3; (try k_sweep))
  | ((with_reducible show wpAny _ _ (call (Value.ref 153) [] _) _ _ _); (rename News _ _ _ _ => nX); (replace nX := x_drop 3 nX); (dsimp only [List.drop] at nX); refine' ldkw ?B ?F ?X ?N ?T ?h0 ?h1 ?hl ?hy ?ht ?hs ?hb ?_; (case B => assumption); (case F => k_asm); (case X => k_asm); (case N => k_asm); (case T => assumption); (case h0 => (first | with_reducible exact mod_0 | with_reducible exact mod_6 | decide | omega)); (case h1 => (first | with_reducible exact mod_0 | with_reducible exact mod_6 | decide | omega)); (case hy => exact List.Mem.head _); (case ht => exact List.Mem.tail _ (List.Mem.head _)); (case hl => ((repeat (first | (with_reducible refine wrapS_le ?za ?zb ?zc ?_; (case za => (first | with_reducible exact mod_0 | with_reducible exact mod_6 | decide | omega)); (case zb => (first | with_reducible exact mod_0 | with_reducible exact mod_6 | decide | omega)); (case zc => omega)) | (with_reducible refine wrapD_le ?za ?zb ?zc ?_; (case za => (first | with_reducible exact mod_0 | with_reducible exact mod_6 | decide | omega)); (case zb => (first | with_reducible exact mod_0 | with_reducible exact mod_6 | decide | omega)); (case zc => omega)))); (first | omega | decide))); (case hs => k_is); (case hb => k_is); k_whole; intro x' t' d' k0 k1 k2 u' h' tk' F' N' l1 l2 l3; (try k_sweep))
  | ((with_reducible show wpAny _ _ (call (Value.ref 153) [Value.str (PySem.Str.ofString "") _, _, Value.ref _, Value.int _ _] []) _ _ _); (rename News _ _ _ _ => nX); (replace nX := x_drop 3 nX); (dsimp only [List.drop] at nX); refine' ld4b ?B ?F ?X ?N ?T ?h0 ?h1 ?hl ?hy ?ht ?hs ?hb ?_; (case B => assumption); (case F => k_asm); (case X => k_asm); (case N => k_asm); (case T => assumption); (case h0 => (first | with_reducible exact mod_0 | with_reducible exact mod_6 | decide | omega)); (case h1 => (first | with_reducible exact mod_0 | with_reducible exact mod_6 | decide | omega)); (case hy => exact List.Mem.head _); (case ht => exact List.Mem.tail _ (List.Mem.head _)); (case hl => ((repeat (first | (with_reducible refine wrapS_le ?za ?zb ?zc ?_; (case za => (first | with_reducible exact mod_0 | with_reducible exact mod_6 | decide | omega)); (case zb => (first | with_reducible exact mod_0 | with_reducible exact mod_6 | decide | omega)); (case zc => omega)) | (with_reducible refine wrapD_le ?za ?zb ?zc ?_; (case za => (first | with_reducible exact mod_0 | with_reducible exact mod_6 | decide | omega)); (case zb => (first | with_reducible exact mod_0 | with_reducible exact mod_6 | decide | omega)); (case zc => omega)))); (first | omega | decide))); (case hs => k_is); (case hb => k_is); k_whole; intro x' t' d' k0 k1 k2 u' h' tk' F' N' l1 l2 l3; (try k_sweep))
  | ((with_reducible show wpAny _ _ (call (Value.ref 110) [] _) _ _ _); refine' lskw ?B ?F ?X ?N ?T ?h0 ?h1 ?hl ?hy ?ht ?hs ?hb ?_; (case B => assumption); (case F => k_asm); (case X => k_asm); (case N => k_asm); (case T => assumption); (case h0 => (first | with_reducible exact mod_0 | with_reducible exact mod_6 | decide | omega)); (case h1 => (first | with_reducible exact mod_0 | with_reducible exact mod_6 | decide | omega)); (case hy => k_mem); (case ht => k_mem); (case hl => ((repeat (first | (with_reducible refine wrapS_le ?za ?zb ?zc ?_; (case za => (first | with_reducible exact mod_0 | with_reducible exact mod_6 | decide | omega)); (case zb => (first | with_reducible exact mod_0 | with_reducible exact mod_6 | decide | omega)); (case zc => omega)) | (with_reducible refine wrapD_le ?za ?zb ?zc ?_; (case za => (first | with_reducible exact mod_0 | with_reducible exact mod_6 | decide | omega)); (case zb => (first | with_reducible exact mod_0 | with_reducible exact mod_6 | decide | omega)); (case zc => omega)))); (first | omega | decide))); (case hs => k_is); (case hb => k_is); k_whole; intro x' t' d' k0 k1 k2 u' h' tk' F' N' l1 l2 l3; (try k_sweep))
  | ((with_reducible show wpAny _ _ (call (Value.ref 153) [] _) _ _ _); refine' ldkw ?B ?F ?X ?N ?T ?h0 ?h1 ?hl ?hy ?ht ?hs ?hb ?_; (case B => assumption); (case F => k_asm); (case X => k_asm); (case N => k_asm); (case T => assumption); (case h0 => (first | with_reducible exact mod_0 | with_reducible exact mod_6 | decide | omega)); (case h1 => (first | with_reducible exact mod_0 | with_reducible exact mod_6 | decide | omega)); (case hy => k_mem); (case ht => k_mem); (case hl => ((repeat (first | (with_reducible refine wrapS_le ?za ?zb ?zc ?_; (case za => (first | with_reducible exact mod_0 | with_reducible exact mod_6 | decide | omega)); (case zb => (first | with_reducible exact mod_0 | with_reducible exact mod_6 | decide | omega)); (case zc => omega)) | (with_reducible refine wrapD_le ?za ?zb ?zc ?_; (case za => (first | with_reducible exact mod_0 | with_reducible exact mod_6 | decide | omega)); (case zb => (first | with_reducible exact mod_0 | with_reducible exact mod_6 | decide | omega)); (case zc => omega)))); (first | omega | decide))); (case hs => k_is); (case hb => k_is); k_whole; intro x' t' d' k0 k1 k2 u' h' tk' F' N' l1 l2 l3; (try k_sweep))
  | ((with_reducible show wpAny _ _ (call (Value.ref 153) [Value.str (PySem.Str.ofString "") _, _, Value.ref _, Value.int _ _] []) _ _ _); refine' ld4b ?B ?F ?X ?N ?T ?h0 ?h1 ?hl ?hy ?ht ?hs ?hb ?_; (case B => assumption); (case F => k_asm); (case X => k_asm); (case N => k_asm); (case T => assumption); (case h0 => (first | with_reducible exact mod_0 | with_reducible exact mod_6 | decide | omega)); (case h1 => (first | with_reducible exact mod_0 | with_reducible exact mod_6 | decide | omega)); (case hy => k_mem); (case ht => k_mem); (case hl => ((repeat (first | (with_reducible refine wrapS_le ?za ?zb ?zc ?_; (case za => (first | with_reducible exact mod_0 | with_reducible exact mod_6 | decide | omega)); (case zb => (first | with_reducible exact mod_0 | with_reducible exact mod_6 | decide | omega)); (case zc => omega)) | (with_reducible refine wrapD_le ?za ?zb ?zc ?_; (case za => (first | with_reducible exact mod_0 | with_reducible exact mod_6 | decide | omega)); (case zb => (first | with_reducible exact mod_0 | with_reducible exact mod_6 | decide | omega)); (case zc => omega)))); (first | omega | decide))); (case hs => k_is); (case hb => k_is); k_whole; intro x' t' d' k0 k1 k2 u' h' tk' F' N' l1 l2 l3; (try k_sweep))
  | ((with_reducible show wpAny _ _ (call (Value.ref 153) [Value.str _ _, _, Value.ref _, Value.int _ _] []) _ _ _); (rename News _ _ _ _ => nX); (replace nX := x_drop 3 nX); (dsimp only [List.drop] at nX); refine' ld4a ?B ?F ?X ?N ?T ?z0 ?z1 ?_; (case B => assumption); (case F => k_asm); (case X => k_asm); (case N => k_asm); (case T => assumption); (case z0 => omega); (case z1 => omega); k_whole; intro x' t' d' k0 k1 k2 u' h' tk' F' N' l1 l2 l3; (try k_sweep))
  | ((with_reducible show wpAny _ _ (call (Value.ref 153) [Value.str _ _, _] []) _ _ _); (rename News _ _ _ _ => nX); (replace nX := x_drop 3 nX); (dsimp only [List.drop] at nX); refine' ld2 ?B ?F ?X ?N ?T ?z0 ?z1 ?_; (case B => assumption); (case F => k_asm); (case X => k_asm); (case N => k_asm); (case T => assumption); (case z0 => omega); (case z1 => omega); k_whole; intro x' t' d' k0 k1 k2 u' h' tk' F' N' l1 l2 l3; (try k_sweep))
  | ((with_reducible show wpAny _ _ (call (Value.ref 169) _ _) _ _ _); refine' stands ?B ?F ?X ?N ?T ?hx ?ht ?hd ?hr ?O ?hX ?U ?_; (case B => assumption); (case F => k_asm); (case X => k_asm); (case N => k_asm); (case T => assumption); (case hx => k_mem); (case ht => k_mem); (case hd => k_mem); (case hr => k_mem); (case O => first | exact row_46 _ | exact row_67 _ | exact row_88 _ | exact row_110 _ | exact row_131 _ | exact row_153 _); (case hX => ((repeat (first | (with_reducible refine wrapS_le ?za ?zb ?zc ?_; (case za => (first | with_reducible exact mod_0 | with_reducible exact mod_6 | decide | omega)); (case zb => (first | with_reducible exact mod_0 | with_reducible exact mod_6 | decide | omega)); (case zc => omega)) | (with_reducible refine wrapD_le ?za ?zb ?zc ?_; (case za => (first | with_reducible exact mod_0 | with_reducible exact mod_6 | decide | omega)); (case zb => (first | with_reducible exact mod_0 | with_reducible exact mod_6 | decide | omega)); (case zc => omega)))); (first | omega | decide))); (case U => (intro t9; k_upd)); k_whole; intro T9 h' tk' F' N'; (try dsimp only at N'); (try k_sweep))
  | ((with_reducible show wpAny _ _ (call (Value.ref 190) [Value.str _ _, _, _, Value.none, Value.bool true] []) _ _ _); refine' nm_a ?B ?F ?X ?N ?T ?_; (case B => assumption); (case F => k_asm); (case X => k_asm); (case N => k_asm); (case T => assumption); k_whole; intro h' tk' F' N'; (try k_sweep))
  | ((with_reducible show wpAny _ _ (call (Value.ref 190) [Value.none, _, _, Value.none, Value.bool false] []) _ _ _); refine' nm_b ?B ?F ?X ?N ?T ?_; (case B => assumption); (case F => k_asm); (case X => k_asm); (case N => k_asm); (case T => assumption); k_whole; intro h' tk' F' N'; (try k_sweep))
  | ((with_reducible show wpAny _ _ (call (Value.ref 190) [Value.none, _, Value.none, Value.int _ _, Value.bool false] []) _ _ _); refine' nm_c ?B ?F ?X ?N ?T ?_; (case B => assumption); (case F => k_asm); (case X => k_asm); (case N => k_asm); (case T => assumption); k_whole; intro h' tk' F' N'; (try k_sweep))
  | ((with_reducible show wpAny _ _ (call (Value.ref 190) [Value.none, _, Value.none, Value.int _ _, Value.bool true] []) _ _ _); refine' nm_d ?B ?F ?X ?N ?T ?_; (case B => assumption); (case F => k_asm); (case X => k_asm); (case N => k_asm); (case T => assumption); k_whole; intro h' tk' F' N'; (try k_sweep))
  | ((with_reducible show wpAny _ _ (call (Value.ref 183) [Value.str (PySem.Str.ofString "Serialization") _, _, _] []) _ _ _); refine' wrS_call ?B ?F ?X ?N ?T ?hi ?h0 ?h1 ?_; (case B => assumption); (case F => k_asm); (case X => k_asm); (case N => k_asm); (case T => assumption); (case hi => ((repeat (first | (with_reducible refine wrapS_le ?za ?zb ?zc ?_; (case za => (first | with_reducible exact mod_0 | with_reducible exact mod_6 | decide | omega)); (case zb => (first | with_reducible exact mod_0 | with_reducible exact mod_6 | decide | omega)); (case zc => omega)) | (with_reducible refine wrapD_le ?za ?zb ?zc ?_; (case za => (first | with_reducible exact mod_0 | with_reducible exact mod_6 | decide | omega)); (case zb => (first | with_reducible exact mod_0 | with_reducible exact mod_6 | decide | omega)); (case zc => omega)))); (first | omega | decide))); (case h0 => (first | with_reducible exact mod_0 | with_reducible exact mod_6 | decide | omega)); (case h1 => (first | with_reducible exact mod_0 | with_reducible exact mod_6 | decide | omega)); k_whole; intro u' h' tk' F' N'; (try k_sweep))
  | ((with_reducible show wpAny _ _ (call (Value.ref 183) [Value.str (PySem.Str.ofString "Deserialization") _, _, _] []) _ _ _); refine' wrD_call ?B ?F ?X ?N ?T ?hi ?h0 ?h1 ?_; (case B => assumption); (case F => k_asm); (case X => k_asm); (case N => k_asm); (case T => assumption); (case hi => ((repeat (first | (with_reducible refine wrapS_le ?za ?zb ?zc ?_; (case za => (first | with_reducible exact mod_0 | with_reducible exact mod_6 | decide | omega)); (case zb => (first | with_reducible exact mod_0 | with_reducible exact mod_6 | decide | omega)); (case zc => omega)) | (with_reducible refine wrapD_le ?za ?zb ?zc ?_; (case za => (first | with_reducible exact mod_0 | with_reducible exact mod_6 | decide | omega)); (case zb => (first | with_reducible exact mod_0 | with_reducible exact mod_6 | decide | omega)); (case zc => omega)))); (first | omega | decide))); (case h0 => (first | with_reducible exact mod_0 | with_reducible exact mod_6 | decide | omega)); (case h1 => (first | with_reducible exact mod_0 | with_reducible exact mod_6 | decide | omega)); k_whole; intro u' h' tk' F' N'; (try k_sweep))
  | ((with_reducible show wpAny _ _ (call (Value.ref 176) _ _) _ _ _); refine' word_two ?B ?F ?X ?N ?T ?w0 ?w1; (case B => assumption); (case F => k_asm); (case X => k_asm); (case N => k_asm); (case T => assumption); k_whole; (case' w0 => intro u' h' tk' F' N'); (case' w1 => intro W9 u' h' tk' q1 q2 q3 q4 F' N'); (all_goals (try k_sweep))))))
local macro_rules | `(tactic| walk_at "getAttr ref") => `(tactic| (k_here; k_dflt (refine' x_own ?k1 ?k2 ?k3 ?ka ?kb ?kc ?k4 ?k5 ?k6 ?k7 ?k8 ?_; (case k1 => k_asm); (case k2 => k_asm); (case k3 => k_inst); (case ka => k_is); (case kb => k_is); (case kc => k_is); (case k4 => k_is); (case k5 => k_is); (case k6 => k_is); (case k7 => k_get); (case k8 => k_handed); k_whole)))
local macro_rules | `(tactic| k_subL) => `(tactic| first | exact XDel.here | (refine' XDel.skip ?sk; (case sk => k_subL)))
local macro_rules | `(tactic| k_lt $h) => `(tactic| (have nn := $h; (replace $h := allLt_of $h); simp only [AllLt, and_true] at $h:ident))
local macro_rules | `(tactic| walk_at "UnrEnd") => `(tactic| (k_here; (rename News _ _ _ _ => nX); k_dflt (refine' x_unr ?F nX ?D ?O ?_; (case F => k_asm); (case D => k_subL); (case O => (repeat (first | exact XOff.tail (by with_reducible assumption) | refine' XOff.cons (by k_cls) ?_))); k_whole)))
local macro_rules | `(tactic| walk_at "call type:bytes") => `(tactic| (k_here; (with_reducible show wpAny _ _ (call (Value.type "bytes") [Value.ref _]) _ _ _); k_dflt (refine' x_bytes ?F ?N ?m ?o ?hh ?h0 ?h1 ?ht ?_; (case F => k_asm); (case N => k_asm); (case m => k_mem); (case o => exact rfl); (case hh => exact rfl); (case h0 => exact Int.fmod_nonneg_of_pos _ (by decide)); (case h1 => exact Int.fmod_lt_of_pos _ (by decide)); (case ht => exact Nat.succ_pos _); k_whole; intro h' t' k' q0 F' N'; (try k_sweep))))
local macro_rules | `(tactic| walk_at "compareOp IsNot") => `(tactic| (k_here; refine x_isnot_bytes (by assumption) ?_))
local macro_rules | `(tactic| walk_at "callWith ref") => `(tactic| (k_here; (with_reducible show wpAny _ _ (callWith _ (Value.ref _) _ (backTo _ (starEach [] _)) (backToKw _ (keywordEach (_ :: _) _))) _ _ _); k_dflt (refine' callWith_KW0 ?k1 ?k2 ?k3 ?_; (case k1 => k_asm); (case k2 => k_is); (case k3 => exact rfl); k_whole)))
local macro_rules | `(tactic| walk_at "exec For") => `(tactic| (k_here; (with_reducible show wpAny _ _ (exec (Stmt.For (Expr.Name _ _) (Expr.BinOp _ _ _ _) _ [] _) _) _ _ _); (rename Fr _ _ _ _ => lF'); (with_unfolding_all refine' For_invVF lF' ?k1 ?k2 ?_; (case k1 => exact rfl); (case k2 => exact rfl); k_whole)))

set_option maxHeartbeats 40000000 in
theorem main7 : PySem.Challenge.rw_ej5032_01.Holds := hd (by
  k_go0; (all_goals try k_fold)
  (k_with "pyIter ref" => k_search (fun pre => True)
   k_steps))
end
end Mine

theorem PySem.Challenge.cw_ej5032_01_holds : PySem.Challenge.rw_ej5032_01.Holds := by
  exact Mine.main7
