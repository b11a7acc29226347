import PyProof.Rows.All
import Wide.All
import OpenK.AllK
import Wide.FinOn
import PySem.Challenge.RW_dv0002_02
set_option Elab.async false
section -- ExcA
set_option maxRecDepth 100000
set_option maxHeartbeats 4000000
set_option linter.unusedSimpArgs false
set_option linter.unusedVariables false
namespace Mine
open PySem PySem.W PySem.Calls PyProof.Rows PySem.Builtin PySem.Builtin.ObjectAttr PySem.Builtin.Getset_descriptor

/-- an exception class of the text's own, over Exception -/
def exIn (K : Frag) (C : Addr) : Bool := match K.lookup C with
  | some ⟨.type "type", _, .cls cd, sl⟩ => !cd.abstract && !cd.hasDel && cd.hasDict && (sl.toList[4]?).join == some (.builtin "Exception.__new__") && !cd.mro.isEmpty && cd.mro.contains (.ref C) && cd.mro.contains (.type "Exception") &&
      cd.mro.contains (.type "BaseException") && cd.mro.contains (.type "object") && !cd.mro.contains (.type "AttributeError") && !cd.mro.contains (.type "NameError") &&
      specialIn K (.ref C) "__call__" == some (some (.builtin "type.__call__")) && instIn K (.ref C) (.type "type") == some true
  | _ => false

structure ECls (M : Model) (h : Heap) (C : Addr) : Prop where
  obj : ∃ od cd sl, h.get? C = some ⟨.type "type", od, .cls cd, sl⟩ ∧ cd.abstract = false ∧ cd.hasDel = false ∧ cd.mro.isEmpty = false ∧ cd.hasDict = true
  made : Looks M h (Bind.madeBy (.ref C)) (some "Exception.__new__")
  base : Looks M h (Bind.staticBase (.ref C)) (.ref C)
  self : Looks M h (isSubtype (.ref C) (.ref C)) true
  exc : Looks M h (isSubtype (.ref C) (.type "Exception")) true
  bexc : Looks M h (isSubtype (.ref C) (.type "BaseException")) true
  top : Looks M h (isSubtype (.ref C) (.type "object")) true
  attr : Looks M h (isSubtype (.ref C) (.type "AttributeError")) false
  name : Looks M h (isSubtype (.ref C) (.type "NameError")) false
  call : Looks M h (specialOf (.ref C) "__call__") (some (.builtin "type.__call__"))
  typ : Looks M h (isInstance (.ref C) (.type "type")) true

theorem ecls_of {K : Frag} {M : Model} {h : Heap} (X : K.In h) {C : Addr} (e : exIn K C = true) : ECls M h C := by
  unfold exIn at e
  split at e
  · rename_i od cd sl ho
    simp only [Bool.and_eq_true, Bool.not_eq_true', beq_iff_eq] at e
    obtain ⟨⟨⟨⟨⟨⟨⟨⟨⟨⟨⟨⟨e1, e2⟩, e2'⟩, e3⟩, e4⟩, e5⟩, e6⟩, e7⟩, e8⟩, e9⟩, e10⟩, e11⟩, e12⟩ := e
    have hc : clsIn K C = some cd := by unfold clsIn; rw [ho]
    have hm : Looks M h (mroOf (.ref C)) cd.mro := (looks_clsIn X hc).andThen .now
    obtain ⟨c, l, hl⟩ : ∃ c l, cd.mro = c :: l := by cases q : cd.mro with | nil => rw [q] at e4; cases e4 | cons c l => exact ⟨c, l, rfl⟩
    have made : Looks M h (Bind.madeBy (.ref C)) (some "Exception.__new__") := by
      intro A Q E s k q
      unfold Bind.madeBy
      refine wpAny_bind (hm A _ E s k ?_)
      rw [hl, List.forIn_cons]
      refine wpAny_bind (wpAny_bind (wpAny_bind (wpAny_bind (wpAny_loadPart (k _ _ (X _ _ ho)) (wpAny_pure ?_)))))
      dsimp only
      rw [← Array.getElem?_toList, e3]
      exact wpAny_pure (wpAny_pure (wpAny_pure q))
    have S : ∀ b r, cd.mro.contains b = r → Looks M h (isSubtype (.ref C) b) r := fun b r hb => looks_mroIn X (by unfold mroIn; rw [hc, Option.bind_some, if_neg (by rw [e4]; decide), hb])
    refine ⟨⟨od, cd, sl, X _ _ ho, e1, e2, e4, e2'⟩, made, ?_, S _ _ e5, S _ _ e6, S _ _ e7, S _ _ e8, S _ _ e9, S _ _ e10, looks_specialIn X e11, looks_instIn X e12⟩
    intro A Q E s k q
    unfold Bind.staticBase
    refine wpAny_bind (hm A _ E s k ?_)
    rw [hl, List.forIn_cons]
    exact wpAny_bind (wpAny_bind (wpAny_bind (made A _ E s k (wpAny_pure (wpAny_pure (wpAny_pure q))))))
  · cases e

/-- an exception object: its dict, its args, its traceback, its context -/
abbrev excObj (C : Addr) (d : Option Addr) (a tb ctx : Value) : Obj := { cls := .ref C, dict := d, data := .fields #[a, tb, ctx, .none, .bool false, .none] }
abbrev tupObj (vs : List Value) : Obj := { cls := .type "tuple", data := .seq vs.toArray }

theorem args_enew (C : Value) (rest : List Value) (kw : List (Str × Value)) : Bind.checkArgs "Exception.__new__" ⟨.any, "Exception", "Exception", .cls, [⟨"args", .varPos, false⟩, ⟨"kwargs", .varKw, false⟩]⟩ ⟨C :: rest, kw⟩ = pure () := by
  kernel_rfl

section
variable {prog : Program} {w : World} {A : Around} {K : Frag} {C : Addr} {R : Result → Shared → Prop} {h : Heap} {g : Array GenState} {d : Drawn} {t : Nat} {os : OsState}
theorem exc_new {rest : List Value} {kw : List (Str × Value)} (Y : ECls (model prog w) h C) (hz : rest.length ≤ sizeLine)
    (hq : R (.ok (.ret (.ref (h.objs.size + 1)))) ⟨(h.push (tupObj rest)).push (excObj C none (.ref h.objs.size) .none .none), g, d, t, os⟩) :
    codeAny (model prog w) A (.call (.builtin "Exception.__new__") ⟨.ref C :: rest, kw⟩) R ⟨h, g, d, t, os⟩ := by
  obtain ⟨⟨od, cd, sl, hC, e1, e2, e4, e5⟩, made, base, self, exc, bexc, top, attr, name, call, typ⟩ := Y
  have F := PySem.F.excBase_Exception
  refine codeAny_call_builtin_code (Code.quiet_builtin _ F.quiet) ?_
  simp only [checkBuiltinCall, F.newKind, F.newSplit, F.newRow]
  have here : Looks (model prog w) h (Bind.madeHere "Exception.__new__" (.ref C)) () := base.andThen (made.andThen (Looks.of_pure (by simp only [Option.map_some, bne_self_eq_false, Bool.false_eq_true, if_false])))
  have here' : Looks (model prog w) h (Bind.madeHere "BaseException.__new__" (.ref C)) () := base.andThen (made.andThen (Looks.of_pure (by simp only [Option.map_some, F.canon, bne_self_eq_false, Bool.false_eq_true, if_false])))
  have args := args_enew (.ref C) rest kw
  rw [args]
  repeat (first | simp only [bne_self_eq_false, Bool.false_eq_true, if_false] | lk)
  refine codeAny_builtinAt F.entry ?_
  unfold Builtin.«BaseException.__new__»
  refine PySem.wpAt_bind ?_
  show PySem.wpAt _ _ _ (stack >>= _) _ _ _
  refine PySem.wpAt_bind (PySem.wpAt_stack fun p below => PySem.wpAt_of_wpAny ?_)
  dsimp only
  rw [F.ends, if_pos rfl]
  refine wpAny_pure ?_
  refine PySem.wpAt_of_wpAny ?_
  rw [F.owner]
  repeat (first | simp only [Bool.false_eq_true, if_false, Bool.not_true] | lk)
  rw [if_neg (by rw [List.size_toArray]; omega)]
  have hC2 : ((h.push (tupObj rest)).push (excObj C none (.ref h.objs.size) .none .none)).get? C = some ⟨.type "type", od, .cls cd, sl⟩ := Heap.get?_push_of_some _ (Heap.get?_push_of_some _ hC)
  repeat (first | simp only [e2, Bool.false_eq_true, if_false, Bool.not_true] | lk)
  rw [Heap.size_push]
  exact hq

theorem exc_make {rest : List Value} {kw : List (Str × Value)} {fI : Addr} (Y : ECls (model prog w) h C) (hi : Looks (model prog w) h (typeLookup (.ref C) "__init__") (some (.ref fI)))
    (hb : ∀ self, Looks (model prog w) h (bindSpecial (.ref fI) self) (.ref fI, [self])) (hz : rest.length ≤ sizeLine)
    (hq : codeAny (model prog w) (A.under (.builtin "type.__call__" ⟨.ref C :: rest, kw⟩)) (.call (.ref fI) ⟨.ref (h.objs.size + 1) :: rest, kw⟩) (InitBack (h.objs.size + 1) R) ⟨(h.push (tupObj rest)).push (excObj C none (.ref h.objs.size) .none .none), g, d, t, os⟩) :
    codeAny (model prog w) A (.call (.ref C) ⟨rest, kw⟩) R ⟨h, g, d, t, os⟩ := by
  have Y' := Y
  obtain ⟨⟨od, cd, sl, hC, e1, e2, e4, e5⟩, made, base, self, exc, bexc, top, attr, name, call, typ⟩ := Y
  refine codeAny_of_tree ?_
  show wpAny _ _ (callAny (.ref C) _) _ _ _
  refine nd_load hC ?_
  show wpAny _ _ (callAny.viaDunder (.ref C) _) _ _ _
  unfold callAny.viaDunder
  refine wpAny_bind (call.at ?_)
  dsimp only
  rw [tc_bind]
  refine wpAny_bind (wpAny_pure (wpAny_bind (wpAny_pure ?_)))
  refine wpAny_pure (a := PySem.Fin.again (.call (.builtin "type.__call__") ⟨.ref C :: rest, kw⟩)) (And.intro rfl ?_)
  refine codeAny_call_builtin_at (Code.quiet_builtin _ (by decide +kernel)) entry_typeCall (check_slot tc_kind tc_split typ (tc_args _ _ _) ?_)
  unfold Builtin.«type.__call__»
  have hm : Looks (model prog w) h (mroOf (.ref C)) cd.mro := ((Looks.ld (part := none) hC).andThen .now).andThen .now
  repeat (first | simp only [e4, Bool.false_eq_true, if_false] | with_reducible refine wpAny_call ?_ | lk)
  refine exc_new Y' hz ?_
  have k : ∀ b o, h.get? b = some o → ((h.push (tupObj rest)).push (excObj C none (.ref h.objs.size) .none .none)).get? b = some o := fun b o e => Heap.get?_push_of_some _ (Heap.get?_push_of_some _ e)
  have hx : ((h.push (tupObj rest)).push (excObj C none (.ref h.objs.size) .none .none)).get? (h.objs.size + 1) = some (excObj C none (.ref h.objs.size) .none .none) := by heap_get
  have t1 : Looks (model prog w) ((h.push (tupObj rest)).push (excObj C none (.ref h.objs.size) .none .none)) (typeOf (.ref (h.objs.size + 1))) (.ref C) := (Looks.ld hx).andThen .now
  have s1 := self.keeps k
  have i1 := hi.keeps k
  have b1 := (hb (.ref (h.objs.size + 1))).keeps k
  unfold isInstance callSpecial? specialOf
  repeat (first | with_reducible refine wpAny_call ?_ | lk)
  refine codeAny_mono hq fun r s' z => ?_
  rcases r with e | (v | _ | _ | _) <;> first | exact z | exact z.elim | skip
  obtain ⟨rfl, z⟩ := z
  exact wpAny_pure (wpAny_pure z)
end

section
variable {prog : Program} {w : World} {A : Around} {E : Value → Shared → Prop} {s : Shared} {K : Frag} {C L : Addr} {h₀ : Heap} {m : Str → Option Value} {news : List (Addr × Obj)} {Q : Value → Shared → Prop}
/-- the class is called: its args, the exception, then its __init__ -/
theorem call_exc {pos : List Value} {kw : List (Str × Value)} {fI : Addr} (F : Fr h₀ L s.heap m) (X₀ : K.In h₀) (N : News h₀ L s.heap news) (hm : exIn K C = true) (hi : findIn K (.ref C) "__init__" = some (some (.ref fI))) (hf : isFn K (.ref fI) = true)
    (hz : pos.length ≤ sizeLine)
    (h : ∀ x tt h', Fr h₀ L h' m → News h₀ L h' ((x, excObj C none (.ref tt) .none .none) :: (tt, tupObj pos) :: news) → (∀ p ∈ news, p.1 < tt) → tt < x →
      codeAny (model prog w) (A.under (.builtin "type.__call__" ⟨.ref C :: pos, kw⟩)) (.call (.ref fI) ⟨.ref x :: pos, kw⟩) (InitBack x fun r s' => match r with | .ok (.ret v) => Q v s' | .ok _ => False | .error e => E e s') { s with heap := h' }) :
    wpAny (model prog w) A (call (.ref C) pos kw) Q E s := by
  have X := X₀.keeps F.keep
  obtain ⟨hh, g, d, t, os⟩ := s
  refine wpAny_call (exc_make (ecls_of X hm) (looks_findIn X hi) (fun self => bind_fn X self (beq_iff_eq.mp hf)) hz (h _ hh.objs.size _ ((F.push _).push _) ?_ (fun p hp => Heap.lt_size (N p hp).1) (Nat.lt_succ_self _)))
  have := (N.push F (tupObj pos)).push (F.push _) (excObj C none (.ref hh.objs.size) .none .none)
  rwa [Heap.size_push] at this
end
end Mine

end
section -- ExcB
set_option maxRecDepth 100000
set_option maxHeartbeats 4000000
set_option linter.unusedSimpArgs false
set_option linter.unusedVariables false
namespace Mine
open PySem PySem.W PySem.Calls PyProof.Rows PySem.Builtin PySem.Builtin.ObjectAttr PySem.Builtin.Getset_descriptor

def excTail : List Value → Bool
  | [.type a, .type b, .type c] => a == "Exception" && b == "BaseException" && c == "object"
  | .ref _ :: r => excTail r
  | _ => false
theorem refuse_exc (self : Value) : ∀ {l : List Value}, excTail l = true → refuseLoop self "__setattr__" l = pure ()
  | [.type a, .type b, .type c], e => by
    simp only [excTail, Bool.and_eq_true, beq_iff_eq] at e
    obtain ⟨⟨rfl, rfl⟩, rfl⟩ := e
    exact PySem.F.store_Exception.passes self
  | .ref c :: r, e => by rw [refuseLoop_ref]; exact refuse_exc self (by simpa only [excTail] using e)
theorem exc_has : ∀ {l : List Value}, excTail l = true → l.contains (.type "object") = true ∧ l.contains (.type "BaseException") = true
  | [.type a, .type b, .type c], e => by
    simp only [excTail, Bool.and_eq_true, beq_iff_eq] at e
    obtain ⟨⟨rfl, rfl⟩, rfl⟩ := e
    decide
  | .ref c :: r, e => by
    have := exc_has (l := r) (by simpa only [excTail] using e)
    rw [List.contains_cons, List.contains_cons, this.1, this.2, Bool.or_true, Bool.or_true]; exact ⟨rfl, rfl⟩
def excOver (K : Frag) (C : Addr) : Bool := (clsIn K C).any fun cd => excTail cd.mro

section
variable {prog : Program} {w : World} {A : Around} {E : Value → Shared → Prop} {K : Frag} {C x : Addr} {s : Shared} {h₀ : Heap} {L : Addr} {m : Str → Option Value} {news news' : List (Addr × Obj)} {R : Result → Shared → Prop}

theorem eosa_open {ox : Obj} {od : Option Obj} {name : Str} {tk : Tok} {v : Value} {r : Option Value} (X : K.In s.heap) (I : InstAt s.heap x ox C od) (hp : excOver K C = true) (ht : takerIn K C name = some r)
    (h : ∀ b, wpAny (model prog w) A.in1 (match r with | some a => setByDescriptor a (.ref x) v | none => storeInOwnDict (.ref x) (.ref C) (.str name tk) name v b)
      (fun fin s' => match fin with | .done f => R (.ok f) s' | .again c' => c'.quiet = true ∧ codeAny (model prog w) A c' R s') (fun e s' => R (.error e) s') s) :
    codeAny (model prog w) A (.call (.builtin "object.__setattr__") ⟨[.ref x, .str name tk, v], []⟩) R s := by
  have SF := PySem.F.store_object
  obtain ⟨cd, hc, ho⟩ := any_some hp
  have ne : cd.mro.isEmpty = false := by cases q : cd.mro with | nil => rw [q] at ho; cases ho | cons _ _ => rfl
  have sub : Looks (model prog w) s.heap (isInstance (.ref x) (.type "object")) true := I.type.andThen (looks_mroIn X (by unfold mroIn; rw [hc, Option.bind_some, if_neg (by rw [ne]; decide), (exc_has ho).1]))
  refine codeAny_call_builtin SF.slot.plain SF.entry (@check_slot (model prog w) _ _ s "object.__setattr__" "object" "__setattr__" (.ref x) [.str name tk, v] [] _ SF.kind SF.split sub (SF.args (.ref x) (.str name tk) v) ?_)
  obtain ⟨attr, ha, hr⟩ := Option.bind_eq_some_iff.mp ht
  have hm : Looks (model prog w) s.heap (mroOf (.ref C)) cd.mro := (looks_clsIn X hc).andThen .now
  have L3 : Looks (model prog w) s.heap (storeTaker? attr) r := by
    cases attr with
    | none => cases hr; exact .now
    | some a =>
      obtain ⟨b, hb, rfl⟩ := Option.map_eq_some_iff.mp hr
      refine (looks_takesIn X hb).andThen ?_
      cases b <;> exact .now
  rw [osa_eq, refuse_eq]
  refine wpAny_bind (wpAny_bind (I.type.here (wpAny_bind (hm.here ?_))))
  rw [refuse_exc _ ho]
  refine wpAny_pure (wpAny_bind (I.type.here (wpAny_bind ((looks_findIn X ha).here (wpAny_bind (L3.here ?_))))))
  exact h _

/-- a name is laid into a dict of the ledger -/
theorem nsSet_led {Q : Unit → Shared → Prop} {name : Str} {v : Value} {dx : Addr} {es : List DictEntry} {n : Nat} {pre post : List (Addr × Obj)} (F : Fr h₀ L s.heap m) (N : News h₀ L s.heap (pre ++ (dx, dictOf es n) :: post))
    (hl : (getL name es).isSome = true) (h1 : ∀ p ∈ pre, p.1 ≠ dx) (h2 : ∀ p ∈ post, p.1 ≠ dx) (hz : (putL name (PyData.keyHash w.params name) (.str name s.toks) v es).length ≤ 1000)
    (h : ∀ h', Fr h₀ L h' m → News h₀ L h' (pre ++ (dx, dictOf (putL name (PyData.keyHash w.params name) (.str name s.toks) v es) (putN name es n)) :: post) → Q () { s with heap := h', toks := s.toks + 1 }) :
    wpAny (model prog w) A (nsSet dx name v) Q E s := by
  obtain ⟨U1, U2⟩ := news_upd (f := Obj.putName name (PyData.keyHash w.params name) (.str name s.toks) v) F N h1 h2 (putName_dict _ _ _ _ _ _) rfl
  have D := (N (dx, dictOf es n) (by simp)).1
  unfold nsSet
  refine wpAny_bind (wpAny_bind (wpAny_askSetting (wpAny_pure (wpAny_bind (wpAny_mkText (wpAny_bind (wpAny_loadPart D ?_)))))))
  have c : (!es.toArray.any (·.key.isStr name) && es.toArray.any (·.refKey)) = false := by
    rw [← Array.any_toList, ← Array.any_toList]
    unfold getL at hl
    split at hl
    · rename_i en he
      rw [List.any_eq_true.mpr ⟨en, List.mem_of_find?_eq_some he, List.find?_some he⟩]; rfl
    · split at hl
      · cases hl
      · rename_i z; rw [Bool.not_eq_true] at z
        have z' : es.toArray.toList.any (·.refKey) = false := z
        rw [z', Bool.and_false]
  dsimp only
  rw [aRefKeyMayBeTheName_at, c]
  refine wpAny_updatePart D ?_
  exact h _ U1 U2

theorem eosa_dict {ox : Obj} {dx : Addr} {name : Str} {tk : Tok} {v : Value} {pre post : List (Addr × Obj)} {es : List DictEntry} {n : Nat} (F : Fr h₀ L s.heap m) (N : News h₀ L s.heap (pre ++ (dx, dictOf es n) :: post)) (X : K.In s.heap)
    (I : InstAt s.heap x ox C (some (dictOf es n))) (hd : ox.dict = some dx) (hp : excOver K C = true) (ht : takerIn K C name = some none) (hh : (clsIn K C).any (·.hasDict) = true)
    (hl : (getL name es).isSome = true) (h1 : ∀ p ∈ pre, p.1 ≠ dx) (h2 : ∀ p ∈ post, p.1 ≠ dx) (hz : (putL name (PyData.keyHash w.params name) (.str name s.toks) v es).length ≤ 1000)
    (h : ∀ h', Fr h₀ L h' m → News h₀ L h' (pre ++ (dx, dictOf (putL name (PyData.keyHash w.params name) (.str name s.toks) v es) (putN name es n)) :: post) → R (.ok (.ret .none)) { s with heap := h', toks := s.toks + 1 }) :
    codeAny (model prog w) A (.call (.builtin "object.__setattr__") ⟨[.ref x, .str name tk, v], []⟩) R s := by
  refine eosa_open X I hp ht fun b => ?_
  obtain ⟨cd, hc, hd'⟩ := any_some hh
  obtain ⟨hx, hcl, hn, -⟩ := I
  obtain ⟨oc, odi, oda, osl⟩ := ox
  dsimp only at hcl hd
  subst hcl hd
  refine wpAny_bind (wpAny_pure (wpAny_bind (wpAny_bind (wpAny_loadPart hx (wpAny_bind ((looks_clsIn X hc).here ?_))))))
  rw [hd']
  refine wpAny_pure (a := some dx) (wpAny_bind (wpAny_pure (wpAny_bind ?_)))
  refine nsSet_led F N hl h1 h2 hz fun h' F' N' => ?_
  refine wpAny_bind (wpAny_lookBehind (N' (dx, dictOf (putL name (PyData.keyHash w.params name) (.str name s.toks) v es) (putN name es n)) (by simp)).1 (pastItsLine_dict (by rw [List.size_toArray, sizeLine_eq]; omega)) ?_)
  exact wpAny_pure (h _ F' N')

/-- the first name of an exception: its dict is made -/
theorem eosa_new {a tb ctx : Value} {name : Str} {tk : Tok} {v : Value} {pre post : List (Addr × Obj)} (F : Fr h₀ L s.heap m) (N : News h₀ L s.heap (pre ++ (x, excObj C none a tb ctx) :: post)) (X : K.In s.heap)
    (hp : excOver K C = true) (ht : takerIn K C name = some none) (hh : (clsIn K C).any (·.hasDict) = true) (h1 : ∀ p ∈ pre, p.1 ≠ x) (h2 : ∀ p ∈ post, p.1 ≠ x)
    (h : ∀ h' dd, Fr h₀ L h' m → News h₀ L h' ((dd, dictOf [⟨PyData.keyHash w.params name, .str name s.toks, v⟩] 1) :: (pre ++ (x, excObj C (some dd) a tb ctx) :: post)) → (∀ p ∈ pre ++ (x, excObj C none a tb ctx) :: post, p.1 < dd) →
      R (.ok (.ret .none)) { s with heap := h', toks := s.toks + 1 }) :
    codeAny (model prog w) A (.call (.builtin "object.__setattr__") ⟨[.ref x, .str name tk, v], []⟩) R s := by
  have hx := (N (x, excObj C none a tb ctx) (by simp)).1
  refine eosa_open (ox := excObj C none a tb ctx) (od := none) X ⟨hx, rfl, rfl, trivial⟩ hp ht fun b => ?_
  obtain ⟨cd, hc, hd'⟩ := any_some hh
  refine wpAny_bind (wpAny_pure (wpAny_bind ?_))
  show wpAny _ _ (instanceDict x true) _ _ _
  unfold instanceDict
  refine wpAny_bind (wpAny_loadPart hx (wpAny_bind ((looks_clsIn X hc).here ?_)))
  rw [hd']
  repeat lk
  have F1 := F.push (dictOf [] 0)
  have N1 := N.push F (dictOf [] 0)
  have lt : ∀ p ∈ pre ++ (x, excObj C none a tb ctx) :: post, p.1 < s.heap.objs.size := fun p hp => Heap.lt_size (N p hp).1
  obtain ⟨F2, N2⟩ := news_upd (f := fun o => { o with dict := some s.heap.objs.size }) (pre := (s.heap.objs.size, dictOf [] 0) :: pre) (o' := excObj C (some s.heap.objs.size) a tb ctx) F1 N1
    (fun p hp => by rcases List.mem_cons.mp hp with rfl | hp; exact Nat.ne_of_gt (lt (x, excObj C none a tb ctx) (by simp)); exact h1 p hp) h2 rfl rfl
  have hx1 := (N1 (x, excObj C none a tb ctx) (by simp)).1
  refine wpAny_updatePart (part := none) hx1 ?_
  refine wpAny_pure (a := some s.heap.objs.size) (wpAny_bind (wpAny_pure (wpAny_bind ?_)))
  refine nsSet_led (s := { s with heap := _ }) (pre := []) F2 N2 rfl (fun _ hp => nomatch hp) (fun p hp => ?_) (Nat.le_of_ble_eq_true rfl) fun h' F' N' => ?_
  · rcases List.mem_append.mp hp with hp | hp
    · exact Nat.ne_of_lt (lt p (List.mem_append_left _ hp))
    · rcases List.mem_cons.mp hp with rfl | hp
      · exact Nat.ne_of_lt (lt (x, excObj C none a tb ctx) (by simp))
      · exact Nat.ne_of_lt (lt p (by simp [hp]))
  · refine wpAny_bind (wpAny_lookBehind (N' (s.heap.objs.size, dictOf [⟨PyData.keyHash w.params name, .str name s.toks, v⟩] 1) (.head _)).1 (pastItsLine_dict (by rw [List.size_toArray, sizeLine_eq]; exact Nat.le_of_ble_eq_true rfl)) ?_)
    exact wpAny_pure (h _ _ F' N' lt)
end
end Mine

end
section -- ExcC
set_option maxRecDepth 100000
set_option maxHeartbeats 4000000
set_option linter.unusedSimpArgs false
set_option linter.unusedVariables false
namespace Mine
open PySem PySem.W PySem.Calls PyProof.Rows PySem.Builtin PySem.Builtin.ObjectAttr PySem.Builtin.Getset_descriptor PySem.Builtin.BaseException

theorem entry_gs_set : entryFor table "getset_descriptor.__set__" = some Builtin.«getset_descriptor.__set__» := entryFor_of_tree (by kernel_rfl)
theorem entry_args_set : entryFor table "BaseException.args#set" = some Builtin.«BaseException.args#set» := entryFor_of_tree (by kernel_rfl)
theorem args_gs_set (a b c : Value) : argsOk "getset_descriptor.__set__" ⟨[a, b, c], []⟩ := by unfold argsOk; kernel_rfl
theorem args_owner : descrOwnerAndName "BaseException.args" = ("BaseException", "args") := by decide +kernel
theorem entry_einit : entryFor table "Exception.__init__" = some Builtin.«BaseException.__init__» := PySem.F.excBase_Exception.initEntry

section
variable {prog : Program} {w : World} {A : Around} {E : Value → Shared → Prop} {K : Frag} {C x : Addr} {s : Shared} {h₀ : Heap} {L : Addr} {m : Str → Option Value} {news news' : List (Addr × Obj)} {R : Result → Shared → Prop}

theorem exc_put {i : Nat} {o : Obj} {vs : Array Value} {old v : Value} {Q : Unit → Shared → Prop} (hx : s.heap.get? x = some o) (hd : o.data = .fields vs) (hi : vs[i]? = some old)
    (h : Q () { s with heap := s.heap.update x (Obj.mapFields (·.setIfInBounds i v)) }) : wpAny (model prog w) A (bexcPut (.ref x) i v) Q E s := by
  unfold bexcPut
  refine wpAny_bind (wpAny_field hx hd hi (wpAny_bind (wpAny_setField hx hd (Array.getElem?_eq_some_iff.mp hi).1 ?_)))
  cases old <;> first | exact wpAny_pure h | exact wpAny_letGo h

/-- self.args = (..) -/
theorem args_set {od : Option Addr} {a tb ctx : Value} {tt : Addr} {items : Array Value} {pre post : List (Addr × Obj)} (F : Fr h₀ L s.heap m) (N : News h₀ L s.heap (pre ++ (x, excObj C od a tb ctx) :: post)) (X : K.In s.heap)
    (hp : exIn K C = true) (h1 : ∀ p ∈ pre, p.1 ≠ x) (h2 : ∀ p ∈ post, p.1 ≠ x) (ht : IsTup s.heap tt items)
    (h : ∀ h', Fr h₀ L h' m → News h₀ L h' (pre ++ (x, excObj C od (.ref tt) tb ctx) :: post) → R (.ok (.ret .none)) { s with heap := h' }) :
    codeAny (model prog w) A (.call (.builtin "getset_descriptor.__set__") ⟨[.builtin "BaseException.args", .ref x, .ref tt], []⟩) R s := by
  have hx := (N (x, excObj C od a tb ctx) (by simp)).1
  have Y := ecls_of (M := model prog w) X hp
  have hT5 : s.TypeIs (.builtin "BaseException.args") "getset_descriptor" := PySem.F.typeOf_bexc_args
  refine codeAny_call_builtin PySem.F.slot_gs_set.plain entry_gs_set (PySem.F.slot_gs_set.check _ _ _ _ _ _ _ _ hT5 (args_gs_set _ _ _) ?_)
  obtain ⟨F2, N2⟩ := news_upd (f := Obj.mapFields (·.setIfInBounds 0 (.ref tt))) (o' := excObj C od (.ref tt) tb ctx) F N h1 h2 rfl rfl
  obtain ⟨hh, g, d, t, os⟩ := s
  have t1 : Looks (model prog w) hh (typeOf (.ref x)) (.ref C) := (Looks.ld hx).andThen .now
  have b1 := Y.bexc
  unfold Builtin.«getset_descriptor.__set__» descrSet descrStoreThrough descrCheckInstance descrNameAndClass isInstance
  simp only [args_owner]
  repeat (first | simp only [Bool.not_true, Bool.false_eq_true, if_false] | lk)
  refine ⟨Code.quiet_builtin _ (by decide +kernel), ?_⟩
  rw [show ("BaseException.args" ++ "#set" : String) = "BaseException.args#set" from rfl]
  refine codeAny_builtin entry_args_set ?_
  unfold Builtin.«BaseException.args#set»
  refine wpAny_bind (call_tuple_tup ht (wpAny_bind (exc_put hx rfl (old := a) rfl ?_)))
  exact wpAny_pure (h _ F2 N2)

theorem check_einit {o : Obj} {v : Value} {Q : Unit → Shared → Prop} (X : K.In s.heap) (hp : exIn K C = true) (hx : s.heap.get? x = some o) (hc : o.cls = .ref C) (hq : Q () s) :
    wpAny (model prog w) A (checkBuiltinCall "Exception.__init__" ⟨[.ref x, v], []⟩) Q E s := by
  have Y := ecls_of (M := model prog w) X hp
  have FX := PySem.F.excBase_Exception
  have hs := FX.noStar
  have t1 : Looks (model prog w) s.heap (typeOf (.ref x)) (.ref C) := hc ▸ (Looks.ld hx).andThen .now
  have t2 := t1.andThen (f := fun t => isSubtype t (.type "Exception")) Y.exc
  simp only [checkBuiltinCall, FX.initKind, FX.initSplit, FX.initRow]
  refine wpAny_bind (t2.here ?_)
  simp only [Bool.not_true, Bool.false_eq_true, if_false]
  obtain ⟨hh, g, d, t, os⟩ := s
  obtain ⟨oc, odi, oda, osl⟩ := o
  obtain ⟨⟨od, cd, sl, hC, e1, e2, e4, e5⟩, -⟩ := Y
  dsimp only at hc
  subst hc
  unfold Bind.checkArgs
  repeat lk
  exact hq

/-- Exception.__init__(self, v) -/
theorem exc_init {od : Option Addr} {a tb ctx v : Value} {pre post : List (Addr × Obj)} (F : Fr h₀ L s.heap m) (N : News h₀ L s.heap (pre ++ (x, excObj C od a tb ctx) :: post)) (X : K.In s.heap)
    (hp : exIn K C = true) (h1 : ∀ p ∈ pre, p.1 ≠ x) (h2 : ∀ p ∈ post, p.1 ≠ x)
    (h : ∀ h' tt, Fr h₀ L h' m → News h₀ L h' ((tt, tupObj [v]) :: (pre ++ (x, excObj C od (.ref tt) tb ctx) :: post)) → (∀ p ∈ pre ++ (x, excObj C od a tb ctx) :: post, p.1 < tt) → R (.ok (.ret .none)) { s with heap := h' }) :
    codeAny (model prog w) A (.call (.builtin "Exception.__init__") ⟨[.ref x, v], []⟩) R s := by
  have hx := (N (x, excObj C od a tb ctx) (by simp)).1
  have Y := ecls_of (M := model prog w) X hp
  have FX := PySem.F.excBase_Exception
  have t1 : Looks (model prog w) s.heap (typeOf (.ref x)) (.ref C) := (Looks.ld hx).andThen .now
  refine codeAny_call_builtin FX.init.plain FX.initEntry (check_einit X hp hx rfl ?_)
  have lt : ∀ p ∈ pre ++ (x, excObj C od a tb ctx) :: post, p.1 < s.heap.objs.size := fun p hp => Heap.lt_size (N p hp).1
  have F1 := F.push (tupObj [v])
  have N1 := N.push F (tupObj [v])
  obtain ⟨F2, N2⟩ := news_upd (f := Obj.mapFields (·.setIfInBounds 0 (.ref s.heap.objs.size))) (pre := (s.heap.objs.size, tupObj [v]) :: pre) (o' := excObj C od (.ref s.heap.objs.size) tb ctx) F1 N1
    (fun p hp => by rcases List.mem_cons.mp hp with rfl | hp; exact Nat.ne_of_gt (lt (x, excObj C od a tb ctx) (by simp)); exact h1 p hp) h2 rfl rfl
  have hx1 := (N1 (x, excObj C od a tb ctx) (by simp)).1
  unfold Builtin.«BaseException.__init__»
  show wpAny _ _ (newTuple [v] >>= fun t => bexcPut (.ref x) 0 t >>= fun _ => ret .none) _ _ _
  refine wpAny_bind (wpAny_newObj_type ?_ (by show 1 ≤ sizeLine; rw [sizeLine_eq]; decide))
  refine wpAny_bind (exc_put (s := { s with heap := s.heap.push (tupObj [v]) }) hx1 rfl (old := a) rfl ?_)
  exact wpAny_pure (h _ _ F2 N2 lt)

theorem ega_kind : builtinKind "BaseException.__getattribute__" = some .slot := by decide +kernel
theorem ega_split : splitId "BaseException.__getattribute__" = some ("BaseException", "__getattribute__") := by decide +kernel
theorem ega_plain : plainId "BaseException.__getattribute__" = true := by decide +kernel

/-- an attribute of an exception is asked -/
theorem eget_open {ox : Obj} {od : Option Obj} {name : Str} {expr : Bool} {Q : Value → Shared → Prop} (X : K.In s.heap) (I : InstAt s.heap x ox C od) (hp : exIn K C = true) (hga : findIn K (.ref C) "__getattribute__" = some (some (.builtin "BaseException.__getattribute__"))) (hgh : findIn K (.ref C) "__getattr__" = some none)
    (h : wpAny (model prog w) A.in1 (Builtin.«object.__getattribute__» ⟨[.ref x, .str name s.toks], []⟩)
      (fun fin s' => match fin with | .done f => (match f with | .ret v => wpAny (model prog w) A (handedOut v) Q E s' | _ => False) | .again c' => c'.quiet = true ∧ codeAny (model prog w) A c' (fun r s' => match r with | .ok (.ret v) => wpAny (model prog w) A (handedOut v) Q E s' | _ => False) s') (fun _ _ => False) { s with toks := s.toks + 1 }) :
    wpAny (model prog w) A (getAttr (.ref x) name expr) Q E s := by
  obtain ⟨hh, g, d, t, os⟩ := s
  have L0 := I.type (M := model prog w)
  have L1 := looks_findIn (M := model prog w) X hga
  have L2 := looks_findIn (M := model prog w) X hgh
  have Y := ecls_of (M := model prog w) X hp
  have hx2 : (Value.builtin "BaseException.__getattribute__" == Value.builtin "object.__getattribute__") = false := by decide +kernel
  unfold getAttr getAttrBy
  refine wpAny_bind (wpAny_mkText (wpAny_holding (wpAny_bind (L0.at (wpAny_bind (L1.at ?_))))))
  dsimp only
  rw [hx2, Bool.and_false, if_neg (by decide)]
  unfold getAttrByItsOwn hookBefore
  show wpAny _ _ (typeLookup (.ref C) "__getattr__" >>= _) _ _ _
  refine wpAny_bind (L2.at ?_)
  refine wpAny_bind (wpAny_attempt (wpAny_holding ?_))
  unfold callGetattribute boundAndCalled
  rw [show (expr && onTheHeap (Value.builtin "BaseException.__getattribute__")) = false by cases expr <;> rfl]
  rw [if_neg (by decide)]
  rw [PySem.F.excAttr_ValueError.ga.bind]
  refine wpAny_bind (wpAny_pure ?_)
  show wpAny _ _ (call (.builtin "BaseException.__getattribute__") [.ref x, .str name t]) _ _ _
  refine wpAny_call ?_
  refine codeAny_call_builtin ega_plain PySem.F.entry_bexc_ga ?_
  refine @check_slot (model prog w) _ _ _ "BaseException.__getattribute__" "BaseException" "__getattribute__" (.ref x) [.str name t] [] _ ega_kind ega_split (L0.andThen Y.bexc) (PySem.F.args_bexc_ga _ _) ?_
  refine wpAny_mono h (fun fin s' z => ?_) fun _ _ z => z.elim
  rcases fin with f | c'
  · rcases f with _ | _ | _ | v <;> first | exact z | exact z.elim
  · refine ⟨z.1, codeAny_mono z.2 fun r s' z => ?_⟩
    rcases r with e | (_ | _ | _ | v) <;> first | exact z | exact z.elim

theorem eget_value {ox : Obj} {od : Option Obj} {name : Str} {expr : Bool} {v : Value} {Q : Value → Shared → Prop} (X : K.In s.heap) (I : InstAt s.heap x ox C od) (hp : exIn K C = true) (hga : findIn K (.ref C) "__getattribute__" = some (some (.builtin "BaseException.__getattribute__"))) (hgh : findIn K (.ref C) "__getattr__" = some none)
    (hf : findObj K C od name = some (.value v)) (hh : handedIn v = true) (h : Q v { s with toks := s.toks + 1 }) : wpAny (model prog w) A (getAttr (.ref x) name expr) Q E s := by
  refine eget_open X I hp hga hgh ?_
  obtain ⟨hh', g, d, t, os⟩ := s
  have L0 := I.type (M := model prog w)
  have L1 := looks_find (M := model prog w) X I hf
  unfold Builtin.«object.__getattribute__»
  repeat lk
  show wpAny _ _ (handedOut v) _ _ _
  rw [handedOut_of hh]; exact wpAny_pure h

/-- e.args -/
theorem eget_args {od : Option Addr} {oo : Option Obj} {tt : Addr} {tb ctx : Value} {expr : Bool} {Q : Value → Shared → Prop} (X : K.In s.heap) (I : InstAt s.heap x (excObj C od (.ref tt) tb ctx) C oo) (hp : exIn K C = true)
    (hga : findIn K (.ref C) "__getattribute__" = some (some (.builtin "BaseException.__getattribute__"))) (hgh : findIn K (.ref C) "__getattr__" = some none)
    (hf : findObj K C oo "args" = some (.bind (.builtin "getset_descriptor.__get__") (.builtin "BaseException.args"))) (h : Q (.ref tt) { s with toks := s.toks + 1 }) : wpAny (model prog w) A (getAttr (.ref x) "args" expr) Q E s := by
  refine eget_open X I hp hga hgh ?_
  have Y := ecls_of (M := model prog w) X hp
  obtain ⟨hh', g, d, t, os⟩ := s
  have L0 := I.type (M := model prog w)
  have L1 := looks_find (M := model prog w) X I hf
  have hx := I.at_
  unfold Builtin.«object.__getattribute__» bindTo
  repeat (first | with_reducible refine wpAny_call ?_ | lk)
  have hT5 : (⟨hh', g, d, t + 1, os⟩ : Shared).TypeIs (.builtin "BaseException.args") "getset_descriptor" := PySem.F.typeOf_bexc_args
  refine codeAny_call_builtin PySem.F.slot_gs_get.plain PySem.F.entry_gs_get (PySem.F.slot_gs_get.check _ _ _ _ _ _ _ _ hT5 (PySem.F.args_gs_get _ _ _) ?_)
  have b1 : Looks (model prog w) hh' (isSubtype (.ref C) (.type (descrOwnerAndName "BaseException.args").1)) true := by rw [args_owner]; exact Y.bexc
  unfold Builtin.«getset_descriptor.__get__» descrGet descrGetArgs descrGetter descrCheckInstance descrNameAndClass isInstance
  repeat (first | simp only [Bool.not_true, Bool.false_eq_true, if_false] | lk)
  refine ⟨Code.quiet_builtin _ (by decide +kernel), ?_⟩
  refine codeAny_builtin PySem.F.entry_bexc_args ?_
  unfold Builtin.«BaseException.args»
  refine wpAny_bind (wpAny_field hx rfl (x := .ref tt) rfl ?_)
  rw [show (Value.ref tt == doubtfulMember) = false by rfl, if_neg (by decide)]
  exact wpAny_pure (wpAny_pure (wpAny_pure h))
end
end Mine

end
section -- ExcD
set_option maxRecDepth 100000
set_option maxHeartbeats 4000000
set_option linter.unusedSimpArgs false
set_option linter.unusedVariables false
namespace Mine
open PySem PySem.W PySem.Calls PyProof.Rows PySem.Builtin PySem.Builtin.ObjectAttr PySem.Builtin.Getset_descriptor PySem.Builtin.BaseException

section
variable {prog : Program} {w : World} {A : Around} {E : Value → Shared → Prop} {K : Frag} {C x L : Addr} {s : Shared} {h₀ : Heap} {m : Str → Option Value} {news news' : List (Addr × Obj)} {name : Str} {v a tb ctx : Value}

theorem inst_exc {dx : Addr} {od : Obj} (N : News h₀ L s.heap news) (h1 : (x, excObj C (some dx) a tb ctx) ∈ news) (h2 : (dx, od) ∈ news) : InstAt s.heap x (excObj C (some dx) a tb ctx) C (some od) := ⟨(N _ h1).1, rfl, rfl, (N _ h2).1⟩

theorem set_exc {Q : Unit → Shared → Prop} {dx : Addr} {es es' : List DictEntry} {n n' : Nat} (F : Fr h₀ L s.heap m) (X₀ : K.In h₀) (N : News h₀ L s.heap news) (h1 : (x, excObj C (some dx) a tb ctx) ∈ news) (h2 : (dx, dictOf es n) ∈ news)
    (hs : findIn K (.ref C) "__setattr__" = some (some (.builtin "object.__setattr__"))) (hp : excOver K C = true) (ht : takerIn K C name = some none) (hh : hasDictIn K C = true) (hl : (getL name es).isSome = true)
    (e : (putL name (PyData.keyHash w.params name) (.str name (s.toks + 1)) v es, putN name es n) = (es', n')) (U : Upd dx (dictOf es n) (dictOf es' n') news news') (hz : es'.length ≤ 1000)
    (h : ∀ h', Fr h₀ L h' m → News h₀ L h' news' → Q () { s with heap := h', toks := s.toks + 2 }) :
    wpAny (model prog w) A (setAttr (.ref x) name v) Q E s := by
  have I := inst_exc N h1 h2
  obtain ⟨pre, post, rfl, rfl, a, b⟩ := U.split
  obtain ⟨e1, e2⟩ := Prod.mk.inj e
  subst e1 e2
  exact set_plain (X₀.keeps F.keep) I hs (eosa_dict (s := { s with toks := s.toks + 1 }) F N (X₀.keeps F.keep) I rfl hp ht hh hl a b hz fun h' F' N' => h h' F' N')

theorem set_excNew {Q : Unit → Shared → Prop} {g : Obj → List (Addr × Obj)} (F : Fr h₀ L s.heap m) (X₀ : K.In h₀) (N : News h₀ L s.heap news)
    (hs : findIn K (.ref C) "__setattr__" = some (some (.builtin "object.__setattr__"))) (U : UpdF x (excObj C none a tb ctx) news g) (hp : excOver K C = true) (ht : takerIn K C name = some none) (hh : hasDictIn K C = true)
    (h : ∀ h' dd, Fr h₀ L h' m → News h₀ L h' ((dd, dictOf [⟨PyData.keyHash w.params name, .str name (s.toks + 1), v⟩] 1) :: g (excObj C (some dd) a tb ctx)) → (∀ p ∈ news, p.1 < dd) → Q () { s with heap := h', toks := s.toks + 2 }) :
    wpAny (model prog w) A (setAttr (.ref x) name v) Q E s := by
  obtain ⟨pre, post, rfl, hg, h1, h2⟩ := U.split
  have hx := (N (x, excObj C none a tb ctx) (by simp)).1
  refine set_plain (ox := excObj C none a tb ctx) (od := none) (X₀.keeps F.keep) ⟨hx, rfl, rfl, trivial⟩ hs (eosa_new (s := { s with toks := s.toks + 1 }) F N (X₀.keeps F.keep) hp ht hh h1 h2 fun h' dd F' N' lt => h h' dd F' (by rw [hg]; exact N') lt)

theorem set_excArgs {Q : Unit → Shared → Prop} {od : Option Addr} {oo : Option Obj} {tt : Addr} {items : Array Value} (F : Fr h₀ L s.heap m) (X₀ : K.In h₀) (N : News h₀ L s.heap news) (I : InstAt s.heap x (excObj C od a tb ctx) C oo)
    (hs : findIn K (.ref C) "__setattr__" = some (some (.builtin "object.__setattr__"))) (hp : excOver K C = true) (hp' : exIn K C = true) (ht : takerIn K C "args" = some (some (.builtin "BaseException.args"))) (hT : IsTup s.heap tt items)
    (U : Upd x (excObj C od a tb ctx) (excObj C od (.ref tt) tb ctx) news news')
    (h : ∀ h', Fr h₀ L h' m → News h₀ L h' news' → Q () { s with heap := h', toks := s.toks + 1 }) :
    wpAny (model prog w) A (setAttr (.ref x) "args" (.ref tt)) Q E s := by
  obtain ⟨pre, post, rfl, rfl, a, b⟩ := U.split
  refine set_plain (X₀.keeps F.keep) I hs (eosa_open (s := { s with toks := s.toks + 1 }) (X₀.keeps F.keep) I hp ht fun _ => ?_)
  have hT5 : Looks (model prog w) ({ s with toks := s.toks + 1 } : Shared).heap (typeOf (.builtin "BaseException.args")) (.type "getset_descriptor") := Looks.of_pure PySem.F.typeOf_bexc_args
  refine wpAny_bind (wpAny_rule (wpAny_bind (wpAny_holding (wpAny_bind (wpAny_bind (hT5.here ((Looks.of_pure (h := ({ s with toks := s.toks + 1 } : Shared).heap) PySem.F.slot_gs_set.lookup).here (wpAny_holding ?_))))))))
  rw [PySem.F.slot_gs_set.bind]
  refine wpAny_bind (wpAny_pure (wpAny_bind (wpAny_call (args_set (s := { s with toks := s.toks + 1 }) F N (X₀.keeps F.keep) hp' a b hT fun h' F' N' => ?_))))
  exact wpAny_pure (wpAny_pure (h h' F' N'))

theorem call_einit {Q : Value → Shared → Prop} {od : Option Addr} {g : Obj → List (Addr × Obj)} (F : Fr h₀ L s.heap m) (X₀ : K.In h₀) (N : News h₀ L s.heap news) (U : UpdF x (excObj C od a tb ctx) news g) (hp : exIn K C = true)
    (h : ∀ h' tt, Fr h₀ L h' m → News h₀ L h' ((tt, tupObj [v]) :: g (excObj C od (.ref tt) tb ctx)) → (∀ p ∈ news, p.1 < tt) → Q .none { s with heap := h' }) :
    wpAny (model prog w) A (call (.builtin "Exception.__init__") [.ref x, v]) Q E s := by
  obtain ⟨pre, post, rfl, hg, h1, h2⟩ := U.split
  exact wpAny_call (exc_init F N (X₀.keeps F.keep) hp h1 h2 fun h' tt F' N' lt => h h' tt F' (by rw [hg]; exact N') lt)

theorem get_exc {Q : Value → Shared → Prop} {dx : Addr} {es : List DictEntry} {n : Nat} {expr : Bool} {attr : Option Value} (F : Fr h₀ L s.heap m) (X₀ : K.In h₀) (N : News h₀ L s.heap news) (h1 : (x, excObj C (some dx) a tb ctx) ∈ news) (h2 : (dx, dictOf es n) ∈ news)
    (hga : findIn K (.ref C) "__getattribute__" = some (some (.builtin "BaseException.__getattribute__"))) (hgh : findIn K (.ref C) "__getattr__" = some none) (hp : exIn K C = true) (hh : hasDictIn K C = true)
    (ha : findIn K (.ref C) name = some attr) (hn : noGet K attr = true) (hl : getL name es = some (some v)) (hv : handedIn v = true) (h : Q v { s with toks := s.toks + 1 }) :
    wpAny (model prog w) A (getAttr (.ref x) name expr) Q E s :=
  eget_value (X₀.keeps F.keep) (inst_exc N h1 h2) hp hga hgh (findObj_own hh ha hn hl) hv h

theorem get_excArgs {Q : Value → Shared → Prop} {od : Option Addr} {oo : Option Obj} {tt : Addr} {expr : Bool} (F : Fr h₀ L s.heap m) (X₀ : K.In h₀) (I : InstAt s.heap x (excObj C od (.ref tt) tb ctx) C oo)
    (hga : findIn K (.ref C) "__getattribute__" = some (some (.builtin "BaseException.__getattribute__"))) (hgh : findIn K (.ref C) "__getattr__" = some none) (hp : exIn K C = true)
    (ha : findIn K (.ref C) "args" = some (some (.builtin "BaseException.args"))) (hn : specialIn K (.builtin "BaseException.args") "__get__" = some (some (.builtin "getset_descriptor.__get__"))) (ht : takesIn K (.builtin "BaseException.args") = some true)
    (h : Q (.ref tt) { s with toks := s.toks + 1 }) : wpAny (model prog w) A (getAttr (.ref x) "args" expr) Q E s := by
  refine eget_args (X₀.keeps F.keep) I hp hga hgh ?_ h
  unfold findObj
  have : ∃ cd, clsIn K C = some cd := by
    unfold exIn at hp
    split at hp
    · rename_i od cd sl ho; exact ⟨cd, by unfold clsIn; rw [ho]⟩
    · cases hp
  obtain ⟨cd, hc⟩ := this
  rw [hc, Option.bind_some, ha, Option.bind_some]
  simp only [hn, ht, Option.bind_some]
theorem meta_Exception : typeOf (.type "Exception") = pure (.type "type") := by kernel_rfl
end
end Mine

end
section -- ExcE
set_option maxRecDepth 100000
set_option maxHeartbeats 4000000
set_option linter.unusedSimpArgs false
set_option linter.unusedVariables false
namespace Mine
open PySem PySem.W PySem.Calls PyProof.Rows

section
variable {prog : Program} {w : World} {A : Around} {E : Value → Shared → Prop} {K : Frag} {s : Shared} {base : Heap} {l : List Env} {news : List (Addr × Obj)} {R : Result → Shared → Prop} {p : Program} {loose : List Str} {mean : ExcName → Option Value} {mg mb : Str → Option Value}
/-- a def is called: the walk of its body stands on g, what there is but the ledger -/
theorem enterL {name qual : Str} {params : Arguments} {body : List Stmt} {scope : Scope} {dV kV doc pm cdv ct oc : Value} {an od : Option Addr} {osl : Array (Option Value)} {f : Addr} {args : Args} {binds : List (Str × Value)}
    (hA : A.frames = some l) (hst : base.StaysIn s.heap) (hff : s.heap.FunFrames base l) (X : K.In base) (T : Top p loose mean mg mb base)
    (N : ∀ q ∈ news, s.heap.get? q.1 = some q.2 ∧ base.get? q.1 = none ∧ q.1 ∉ l.filterMap (·.frame))
    (ho : K.lookup f = some ⟨oc, od, .func (fnOf name qual params body scope dV kV doc pm an cdv ct), osl⟩) (hcd : codeIn K cdv qual = true) (hroom : A.depth < recursionLimit)
    (hbind : BindsTo s (fnOf name qual params body scope dV kV doc pm an cdv ct) args binds) (hloc : ∀ y ∈ binds, scope.names.lookup y.1 = some .local)
    (h : ∀ g L' h₁, Fr g L' h₁ (fun y => binds.reverse.lookup y) → News g L' h₁ news → Below A base l g → K.In g → Top p loose mean mg mb g → L' = s.heap.objs.size → (∀ b o, s.heap.get? b = some o → b ∉ news.map (·.1) → g.get? b = some o) → (∀ b o, g.get? b = some o → s.heap.get? b = some o) → (∀ q ∈ news, q.1 < L') →
      wpAny (model prog w) (A.deeper (envOf qual scope L' f cdv)) (execs body (envOf qual scope L' f cdv))
        (fun fl s' => R (.ok (.ret (match fl with | .ret v => v | _ => .none))) s')
        (fun e s' => wpAny (model prog w) (A.deeper (envOf qual scope L' f cdv)) (leaving (envOf qual scope L' f cdv) e) (fun _ s'' => R (.error e) s'') (fun e' s'' => R (.error e') s'') s')
        { s with heap := h₁, toks := s.toks + binds.length })
    (hco : scope.isCoroutine = false) (hgen : scope.isGenerator = false) (hk : scope.kind = .function)
    (hcell : ∀ x ∈ scope.names, x.2 ≠ .cell) : codeAny (model prog w) A (.call (.ref f) args) R s := by
  have XS := X.keeps hst
  refine codeAny_call_def (fd := fnOf name qual params body scope dV kV doc pm an cdv ct) (body := body) (binds := binds) hroom (XS _ _ ho) rfl (T.nolimit.keeps hst) (codeRec_of XS hcd) rfl hbind hcell hloc (fun h₁ hns hk₁ => ?_) hco hgen hk
  have nb : ∀ b o, base.get? b = some o → b ∉ news.map (·.1) := fun b o e q => by
    obtain ⟨p, hp, rfl⟩ := List.mem_map.mp q
    rw [(N p hp).2.1] at e; cases e
  have st : base.StaysIn (hideAll s.heap (news.map (·.1))) := fun b o e => hideAll_get _ (hst b o e) (nb b o e)
  have fr : ∀ b, b ∈ l.filterMap (·.frame) → b ∉ news.map (·.1) := fun b hb q => by
    obtain ⟨p, hp, rfl⟩ := List.mem_map.mp q
    exact (N p hp).2.2 hb
  have BG : Below A base l (hideAll s.heap (news.map (·.1))) := ⟨hA, st, funFrames_hideAll hff fun env he a ha hf => fr a (List.mem_filterMap.mpr ⟨env, he, hf⟩) ha⟩
  have XG := X.keeps st
  have TG := T.keeps st
  exact h (hideAll s.heap (news.map (·.1))) s.heap.objs.size h₁ ⟨hns, fun b o e => hk₁ b o (of_hideAll _ e), Nat.le_of_eq (hideAll_size _ _)⟩
    (fun p hp => ⟨hk₁ _ _ (N p hp).1, Nat.ne_of_lt (Heap.lt_size (N p hp).1), hideAll_none _ (List.mem_map_of_mem hp)⟩) BG XG TG rfl
    (fun b o e q => hideAll_get _ e q) (fun b o e => of_hideAll _ e) (fun p hp => Heap.lt_size (N p hp).1)

/-- a def is called that turns nothing of what there is -/
theorem enter0 {name qual : Str} {params : Arguments} {body : List Stmt} {scope : Scope} {dV kV doc pm cdv ct oc : Value} {an od : Option Addr} {osl : Array (Option Value)} {f : Addr} {args : Args} {binds : List (Str × Value)}
    (hA : A.frames = some l) (hst : base.StaysIn s.heap) (hff : s.heap.FunFrames base l) (X : K.In base) (T : Top p loose mean mg mb base)
    (ho : K.lookup f = some ⟨oc, od, .func (fnOf name qual params body scope dV kV doc pm an cdv ct), osl⟩) (hcd : codeIn K cdv qual = true) (hroom : A.depth < recursionLimit)
    (hbind : BindsTo s (fnOf name qual params body scope dV kV doc pm an cdv ct) args binds) (hloc : ∀ y ∈ binds, scope.names.lookup y.1 = some .local)
    (h : ∀ L' h₁, Fr s.heap L' h₁ (fun y => binds.reverse.lookup y) → News s.heap L' h₁ [] → Below A base l s.heap → K.In s.heap → Top p loose mean mg mb s.heap →
      wpAny (model prog w) (A.deeper (envOf qual scope L' f cdv)) (execs body (envOf qual scope L' f cdv))
        (fun fl s' => R (.ok (.ret (match fl with | .ret v => v | _ => .none))) s')
        (fun e s' => wpAny (model prog w) (A.deeper (envOf qual scope L' f cdv)) (leaving (envOf qual scope L' f cdv) e) (fun _ s'' => R (.error e) s'') (fun e' s'' => R (.error e') s'') s')
        { s with heap := h₁, toks := s.toks + binds.length })
    (hco : scope.isCoroutine = false) (hgen : scope.isGenerator = false) (hk : scope.kind = .function)
    (hcell : ∀ x ∈ scope.names, x.2 ≠ .cell) : codeAny (model prog w) A (.call (.ref f) args) R s := by
  have XS := X.keeps hst
  refine codeAny_call_def (fd := fnOf name qual params body scope dV kV doc pm an cdv ct) (body := body) (binds := binds) hroom (XS _ _ ho) rfl (T.nolimit.keeps hst) (codeRec_of XS hcd) rfl hbind hcell hloc (fun h₁ hns hk₁ => ?_) hco hgen hk
  exact h s.heap.objs.size h₁ ⟨hns, hk₁, Nat.le_refl _⟩ News.nil ⟨hA, hst, hff⟩ XS (T.keeps hst)
end
end Mine

end
section -- ExcF
set_option maxRecDepth 100000
set_option maxHeartbeats 4000000
set_option linter.unusedSimpArgs false
set_option linter.unusedVariables false
namespace Mine
open PySem PySem.W PySem.Calls PyProof.Rows PySem.Builtin PySem.Builtin.Str

theorem fmt_args5 (a b c d e : Value) : argsOk "str.format" ⟨[a, b, c, d, e], []⟩ := by unfold argsOk; kernel_rfl
section
variable {prog : Program} {w : World} {A : Around} {E : Value → Shared → Prop} {s : Shared}
theorem reprL {x y : PySem.Str} {t : Tok} {Q : Value → Shared → Prop} (e : reprText x = y) (hz : y.length ≤ sizeLine) (h : Q (.str y s.toks) { s with toks := s.toks + 1 }) : wpAny (model prog w) A (pyReprObj (.str x t)) Q E s :=
  pyReprObj_str (by rw [e]; exact h) (by rw [e]; exact hz)
theorem call_reprL {x y : PySem.Str} {t : Tok} {Q : Value → Shared → Prop} (e : reprText x = y) (hz : y.length ≤ sizeLine) (h : Q (.str y s.toks) { s with toks := s.toks + 1 }) : wpAny (model prog w) A (call (.builtin "repr") [.str x t]) Q E s :=
  P.repr_of_str (by rw [e]; exact h) (by rw [e]; exact hz)

theorem field_index0 {id : String} {a : Array Value} {byName : PySem.Str → Sem Value} {v : Value} {Q : Value × Numbering → Shared → Prop} (ha : a[0]? = some v)
    (h : Q (v, .manual) s) : wpAny (model prog w) A (fieldObject id (some a) byName [48] .unset) Q E s := by
  unfold fieldObject
  first
    | refine wpAny_bind (wpAny_pure ?_)
    | refine wpAny_bind (wpAny_of_eq (a := some 0) rfl ?_)
  first
    | refine wpAny_bind (wpAny_pure ?_)
    | refine wpAny_bind (wpAny_of_eq (a := (some 0, .manual)) rfl ?_)
  simp only [ha, pure_bind]
  rw [KPc.range_list]
  exact wpAny_bind (wpAny_pure (wpAny_pure h))

theorem cut_int (n : Int) (t : Tok) : typeNameOfCut 200 (.int n t) = pure "int" := by kernel_rfl
theorem gives_int_2d (n : Int) (x : PySem.Str) (t u : Tok) (e : «int.__format__» ⟨[.int n t, .str "2d" u], []⟩ = (typeNameOf (.str "2d" u) >>= fun _ => typeNameOfCut 200 (.int n t) >>= fun _ => retStr x)) :
    Gives («int.__format__» ⟨[.int n t, .str "2d" u], []⟩) (.str x) := by
  rw [e]
  refine gives_after_typeNameOf (T := "str") (fun s => typeIs_str s _ _) (by decide) fun _ => ?_
  rw [cut_int]
  exact Gives.tree (.str x)
/-- format(n, "2d") -/
theorem formatOf_2d {n : Int} {u : Tok} {x : PySem.Str} {Q : Value → Shared → Prop} (hx : x.length ≤ sizeLine) (e : ∀ t u, «int.__format__» ⟨[.int n t, .str "2d" u], []⟩ = (typeNameOf (.str "2d" u) >>= fun _ => typeNameOfCut 200 (.int n t) >>= fun _ => retStr x))
    (h : ∀ t' k, Q (.str x t') { s with toks := k }) : wpAny (model prog w) A (formatOf (.int n u) "2d") Q E s := by
  unfold PySem.Builtin.Str.formatOf
  refine wpAny_ite (KPc.ite_no Bool.false_ne_true ?_)
  refine wpAny_bind (wpAny_mkStr ?_ (by decide))
  refine wpAny_bind (m := callSpecial? (.int n u) (PySem.Str.ofString "__format__") [.str "2d" s.toks]) (wpAny_callSpecial?_slot (name := PySem.Str.ofString "__format__") (typeIs_int _ n u) F.slot_int_format
    (call_gives F.slot_int_format (typeIs_int _ n u) F.entry_int_format (F.args_int_format_2 _ _) (gives_int_2d n x u _ (e _ _)) ⟨hx, ?_⟩))
  refine wpAny_bind (wpAny_of_eq (a := some x) rfl ?_)
  refine wpAny_ite (KPc.ite_no Bool.false_ne_true ?_)
  exact wpAny_pure (h _ _)
theorem t20 (t u : Tok) : «int.__format__» ⟨[.int 20 t, .str "2d" u], []⟩ = (typeNameOf (.str "2d" u) >>= fun _ => typeNameOfCut 200 (.int 20 t) >>= fun _ => retStr "20") := by kernel_rfl
end
end Mine

end
section -- ExcG
open PySem PySem.W PyProof.Rows Mine PySem.Builtin PySem.Builtin.Str
set_option maxRecDepth 100000
set_option maxHeartbeats 400000
set_option linter.unusedVariables false
namespace Mine
def cut (x : String) : List Nat := (PySem.Str.ofString x).cps.toList
def rF : Field := { name := [], conversion := some 114 }
def pF : Field := { name := [] }
def fA0 := cut "Bad value substitution: option {!r} in section {!r} contains an interpolation key {!r} which is not a valid option name. Raw value: {!r}"
def fA1 := cut " in section {!r} contains an interpolation key {!r} which is not a valid option name. Raw value: {!r}"
def fA2 := cut " contains an interpolation key {!r} which is not a valid option name. Raw value: {!r}"
def fA3 := cut " which is not a valid option name. Raw value: {!r}"
theorem fA0_eq : nextMarkup fA0 = .ok (cut "Bad value substitution: option ", some rF, fA1) := by kernel_rfl
theorem fA1_eq : nextMarkup fA1 = .ok (cut " in section ", some rF, fA2) := by kernel_rfl
theorem fA2_eq : nextMarkup fA2 = .ok (cut " contains an interpolation key ", some rF, fA3) := by kernel_rfl
theorem fA3_eq : nextMarkup fA3 = .ok (cut " which is not a valid option name. Raw value: ", some rF, []) := by kernel_rfl
theorem fA_fmt {prog : Program} {w : World} {A : Around} {E : Value → Shared → Prop} {s : Shared} {t a b c d : Tok} {Q : Value → Shared → Prop}
   (h : ∀ t' k, Q (.str (PySem.Str.ofString "Bad value substitution: option 7 in section 's' contains an interpolation key 'r' which is not a valid option name. Raw value: 'v'") t') { s with toks := k }) :
   wpAny (model prog w) A (call (.builtin "str.format") [.str (PySem.Str.ofString "Bad value substitution: option {!r} in section {!r} contains an interpolation key {!r} which is not a valid option name. Raw value: {!r}") t, .int 7 a, .str (PySem.Str.ofString "s") b, .str (PySem.Str.ofString "r") c, .str (PySem.Str.ofString "v") d]) Q E s := by
  refine KFm.call_k (T := PySem.Str.ofString "Bad value substitution: option 7 in section 's' contains an interpolation key 'r' which is not a valid option name. Raw value: 'v'") rfl (fmt_args5 _ _ _ _ _) ?kfmm h
  apply KPc.meets_of
  intro prog w A s Q E hQ
  unfold Builtin.«str.format»
  refine wpAny_bind (wpAny_of_eq (a := (_, _, _)) rfl ?_)
  refine wpAny_bind ?_
  show wpAny _ _ (buildString "str.format" _ _ 2 fA0 _ _) _ _ _
  have l0 : fA0.length = 136 := by decide +kernel
  unfold Builtin.Str.buildString
  refine wpAny_bind ?_
  rw [KPc.range_list, l0]
  refine KFm.start ?_
  intro w0 g0
  refine KPc.turn ?_
  kpc_if
  kpc_check
  dsimp only
  rw [fA0_eq]
  dsimp only
  refine wpAny_bind (KFm.field_auto (by kfm_num) rfl ?_)
  refine wpAny_bind (wpAny_holding ?_)
  show wpAny _ _ (pyReprObj _) _ _ _
  refine pyReprObj_int (by decide +kernel) ?_
  refine wpAny_ite (KPc.ite_no Bool.false_ne_true ?_)
  refine wpAny_bind (wpAny_pure ?_)
  refine wpAny_bind (wpAny_holding (wpAny_of_eq (KFm.formatOf_str _ _) ?_))
  refine wpAny_bind (wpAny_of_eq (a := some _) rfl ?_)
  refine wpAny_pure ?_
  refine KFm.after_field g0 (x' := PySem.Str.ofString "Bad value substitution: option ") (K := 1) (T' := PySem.Str.ofString "Bad value substitution: option 7") (r' := fA1) (by decide +kernel) (by kpc_obj) (by decide +kernel) (by kpc_obj) (by decide +kernel) rfl ?_
  intro w1 g1
  refine KPc.turn ?_
  kpc_if
  kpc_check
  dsimp only
  rw [fA1_eq]
  dsimp only
  refine wpAny_bind (KFm.field_auto (by kfm_num) rfl ?_)
  refine wpAny_bind (wpAny_holding ?_)
  show wpAny _ _ (pyReprObj _) _ _ _
  refine reprL (y := PySem.Str.ofString "'s'") (by decide +kernel) (by decide +kernel) ?_
  refine wpAny_ite (KPc.ite_no Bool.false_ne_true ?_)
  refine wpAny_bind (wpAny_pure ?_)
  refine wpAny_bind (wpAny_holding (wpAny_of_eq (KFm.formatOf_str _ _) ?_))
  refine wpAny_bind (wpAny_of_eq (a := some _) rfl ?_)
  refine wpAny_pure ?_
  refine KFm.after_field g1 (x' := PySem.Str.ofString " in section ") (K := 3) (T' := PySem.Str.ofString "Bad value substitution: option 7 in section 's'") (r' := fA2) (by decide +kernel) (by kpc_obj) (by decide +kernel) (by kpc_obj) (by decide +kernel) rfl ?_
  intro w2 g2
  refine KPc.turn ?_
  kpc_if
  kpc_check
  dsimp only
  rw [fA2_eq]
  dsimp only
  refine wpAny_bind (KFm.field_auto (by kfm_num) rfl ?_)
  refine wpAny_bind (wpAny_holding ?_)
  show wpAny _ _ (pyReprObj _) _ _ _
  refine reprL (y := PySem.Str.ofString "'r'") (by decide +kernel) (by decide +kernel) ?_
  refine wpAny_ite (KPc.ite_no Bool.false_ne_true ?_)
  refine wpAny_bind (wpAny_pure ?_)
  refine wpAny_bind (wpAny_holding (wpAny_of_eq (KFm.formatOf_str _ _) ?_))
  refine wpAny_bind (wpAny_of_eq (a := some _) rfl ?_)
  refine wpAny_pure ?_
  refine KFm.after_field g2 (x' := PySem.Str.ofString " contains an interpolation key ") (K := 3) (T' := PySem.Str.ofString "Bad value substitution: option 7 in section 's' contains an interpolation key 'r'") (r' := fA3) (by decide +kernel) (by kpc_obj) (by decide +kernel) (by kpc_obj) (by decide +kernel) rfl ?_
  intro w3 g3
  refine KPc.turn ?_
  kpc_if
  kpc_check
  dsimp only
  rw [fA3_eq]
  dsimp only
  refine wpAny_bind (KFm.field_auto (by kfm_num) rfl ?_)
  refine wpAny_bind (wpAny_holding ?_)
  show wpAny _ _ (pyReprObj _) _ _ _
  refine reprL (y := PySem.Str.ofString "'v'") (by decide +kernel) (by decide +kernel) ?_
  refine wpAny_ite (KPc.ite_no Bool.false_ne_true ?_)
  refine wpAny_bind (wpAny_pure ?_)
  refine wpAny_bind (wpAny_holding (wpAny_of_eq (KFm.formatOf_str _ _) ?_))
  refine wpAny_bind (wpAny_of_eq (a := some _) rfl ?_)
  refine wpAny_pure ?_
  refine KFm.after_field g3 (x' := PySem.Str.ofString " which is not a valid option name. Raw value: ") (K := 3) (T' := PySem.Str.ofString "Bad value substitution: option 7 in section 's' contains an interpolation key 'r' which is not a valid option name. Raw value: 'v'") (r' := []) (by decide +kernel) (by kpc_obj) (by decide +kernel) (by kpc_obj) (by decide +kernel) rfl ?_
  intro w4 g4
  refine KPc.turn ?_
  kpc_if
  refine wpAny_pure ?_
  refine wpAny_pure ?_
  exact KPc.finish_ok g4 (by decide +kernel) rfl hQ
def fB0 := cut "Recursion limit exceeded in value substitution: option {!r} in section {!r} contains an interpolation key which cannot be substituted in {} steps. Raw value: {!r}"
def fB1 := cut " in section {!r} contains an interpolation key which cannot be substituted in {} steps. Raw value: {!r}"
def fB2 := cut " contains an interpolation key which cannot be substituted in {} steps. Raw value: {!r}"
def fB3 := cut " steps. Raw value: {!r}"
theorem fB0_eq : nextMarkup fB0 = .ok (cut "Recursion limit exceeded in value substitution: option ", some rF, fB1) := by kernel_rfl
theorem fB1_eq : nextMarkup fB1 = .ok (cut " in section ", some rF, fB2) := by kernel_rfl
theorem fB2_eq : nextMarkup fB2 = .ok (cut " contains an interpolation key which cannot be substituted in ", some pF, fB3) := by kernel_rfl
theorem fB3_eq : nextMarkup fB3 = .ok (cut " steps. Raw value: ", some rF, []) := by kernel_rfl
theorem fB_fmt {prog : Program} {w : World} {A : Around} {E : Value → Shared → Prop} {s : Shared} {t a b c d : Tok} {Q : Value → Shared → Prop}
   (h : ∀ t' k, Q (.str (PySem.Str.ofString "Recursion limit exceeded in value substitution: option 8 in section 's' contains an interpolation key which cannot be substituted in 10 steps. Raw value: 'w'") t') { s with toks := k }) :
   wpAny (model prog w) A (call (.builtin "str.format") [.str (PySem.Str.ofString "Recursion limit exceeded in value substitution: option {!r} in section {!r} contains an interpolation key which cannot be substituted in {} steps. Raw value: {!r}") t, .int 8 a, .str (PySem.Str.ofString "s") b, .int 10 c, .str (PySem.Str.ofString "w") d]) Q E s := by
  refine KFm.call_k (T := PySem.Str.ofString "Recursion limit exceeded in value substitution: option 8 in section 's' contains an interpolation key which cannot be substituted in 10 steps. Raw value: 'w'") rfl (fmt_args5 _ _ _ _ _) ?kfmm h
  apply KPc.meets_of
  intro prog w A s Q E hQ
  unfold Builtin.«str.format»
  refine wpAny_bind (wpAny_of_eq (a := (_, _, _)) rfl ?_)
  refine wpAny_bind ?_
  show wpAny _ _ (buildString "str.format" _ _ 2 fB0 _ _) _ _ _
  have l0 : fB0.length = 162 := by decide +kernel
  unfold Builtin.Str.buildString
  refine wpAny_bind ?_
  rw [KPc.range_list, l0]
  refine KFm.start ?_
  intro w0 g0
  refine KPc.turn ?_
  kpc_if
  kpc_check
  dsimp only
  rw [fB0_eq]
  dsimp only
  refine wpAny_bind (KFm.field_auto (by kfm_num) rfl ?_)
  refine wpAny_bind (wpAny_holding ?_)
  show wpAny _ _ (pyReprObj _) _ _ _
  refine pyReprObj_int (by decide +kernel) ?_
  refine wpAny_ite (KPc.ite_no Bool.false_ne_true ?_)
  refine wpAny_bind (wpAny_pure ?_)
  refine wpAny_bind (wpAny_holding (wpAny_of_eq (KFm.formatOf_str _ _) ?_))
  refine wpAny_bind (wpAny_of_eq (a := some _) rfl ?_)
  refine wpAny_pure ?_
  refine KFm.after_field g0 (x' := PySem.Str.ofString "Recursion limit exceeded in value substitution: option ") (K := 1) (T' := PySem.Str.ofString "Recursion limit exceeded in value substitution: option 8") (r' := fB1) (by decide +kernel) (by kpc_obj) (by decide +kernel) (by kpc_obj) (by decide +kernel) rfl ?_
  intro w1 g1
  refine KPc.turn ?_
  kpc_if
  kpc_check
  dsimp only
  rw [fB1_eq]
  dsimp only
  refine wpAny_bind (KFm.field_auto (by kfm_num) rfl ?_)
  refine wpAny_bind (wpAny_holding ?_)
  show wpAny _ _ (pyReprObj _) _ _ _
  refine reprL (y := PySem.Str.ofString "'s'") (by decide +kernel) (by decide +kernel) ?_
  refine wpAny_ite (KPc.ite_no Bool.false_ne_true ?_)
  refine wpAny_bind (wpAny_pure ?_)
  refine wpAny_bind (wpAny_holding (wpAny_of_eq (KFm.formatOf_str _ _) ?_))
  refine wpAny_bind (wpAny_of_eq (a := some _) rfl ?_)
  refine wpAny_pure ?_
  refine KFm.after_field g1 (x' := PySem.Str.ofString " in section ") (K := 3) (T' := PySem.Str.ofString "Recursion limit exceeded in value substitution: option 8 in section 's'") (r' := fB2) (by decide +kernel) (by kpc_obj) (by decide +kernel) (by kpc_obj) (by decide +kernel) rfl ?_
  intro w2 g2
  refine KPc.turn ?_
  kpc_if
  kpc_check
  dsimp only
  rw [fB2_eq]
  dsimp only
  refine wpAny_bind (KFm.field_auto (by kfm_num) rfl ?_)
  refine wpAny_bind (wpAny_holding (wpAny_of_eq (a := _) rfl ?_))
  refine wpAny_ite (KPc.ite_no Bool.false_ne_true ?_)
  refine wpAny_bind (wpAny_pure ?_)
  refine wpAny_bind (wpAny_holding (KFm.formatOf_int (by decide +kernel) ?_))
  intro _ _
  refine wpAny_bind (wpAny_of_eq (a := some _) rfl ?_)
  refine wpAny_pure ?_
  refine KFm.after_field g2 (x' := PySem.Str.ofString " contains an interpolation key which cannot be substituted in ") (K := 2) (T' := PySem.Str.ofString "Recursion limit exceeded in value substitution: option 8 in section 's' contains an interpolation key which cannot be substituted in 10") (r' := fB3) (by decide +kernel) (by kpc_obj) (by decide +kernel) (by kpc_obj) (by decide +kernel) rfl ?_
  intro w3 g3
  refine KPc.turn ?_
  kpc_if
  kpc_check
  dsimp only
  rw [fB3_eq]
  dsimp only
  refine wpAny_bind (KFm.field_auto (by kfm_num) rfl ?_)
  refine wpAny_bind (wpAny_holding ?_)
  show wpAny _ _ (pyReprObj _) _ _ _
  refine reprL (y := PySem.Str.ofString "'w'") (by decide +kernel) (by decide +kernel) ?_
  refine wpAny_ite (KPc.ite_no Bool.false_ne_true ?_)
  refine wpAny_bind (wpAny_pure ?_)
  refine wpAny_bind (wpAny_holding (wpAny_of_eq (KFm.formatOf_str _ _) ?_))
  refine wpAny_bind (wpAny_of_eq (a := some _) rfl ?_)
  refine wpAny_pure ?_
  refine KFm.after_field g3 (x' := PySem.Str.ofString " steps. Raw value: ") (K := 3) (T' := PySem.Str.ofString "Recursion limit exceeded in value substitution: option 8 in section 's' contains an interpolation key which cannot be substituted in 10 steps. Raw value: 'w'") (r' := []) (by decide +kernel) (by kpc_obj) (by decide +kernel) (by kpc_obj) (by decide +kernel) rfl ?_
  intro w4 g4
  refine KPc.turn ?_
  kpc_if
  refine wpAny_pure ?_
  refine wpAny_pure ?_
  exact KPc.finish_ok g4 (by decide +kernel) rfl hQ
end Mine

end
section -- ExcH
set_option maxRecDepth 100000
set_option maxHeartbeats 4000000
set_option linter.unusedSimpArgs false
set_option linter.unusedVariables false
namespace Mine
open PySem PySem.W PySem.Calls PyProof.Rows

def isTb (o : Obj) : Prop := o.cls = .type "traceback" ∧ ∃ vs, o.data = .fields vs
/-- what stands, but X, but the frames' slots, but tracebacks -/
def Kept (fs X : List Addr) (h h' : Heap) : Prop := ∀ b o, h.get? b = some o → b ∉ X → ¬ isTb o → ∃ sl, h'.get? b = some { o with slots := sl } ∧ (b ∉ fs → sl = o.slots)
theorem Kept.refl {fs X : List Addr} {h : Heap} : Kept fs X h h := fun _ o e _ _ => ⟨o.slots, e, fun _ => rfl⟩
theorem isTb_slots {o : Obj} {sl : Array (Option Value)} (h : ¬ isTb o) : ¬ isTb { o with slots := sl } := h
theorem Kept.trans {fs X : List Addr} {h h₁ h₂ : Heap} (x : Kept fs X h h₁) (y : Kept fs X h₁ h₂) : Kept fs X h h₂ := fun b o e hx hb => by
  obtain ⟨sl, e1, k1⟩ := x b o e hx hb
  obtain ⟨sl2, e2, k2⟩ := y b _ e1 hx hb
  exact ⟨sl2, e2, fun n => (k2 n).trans (k1 n)⟩
theorem Kept.of_keeps {fs X : List Addr} {h h' : Heap} (k : ∀ b o, h.get? b = some o → h'.get? b = some o) : Kept fs X h h' := fun b o e _ _ => ⟨o.slots, k b o e, fun _ => rfl⟩
theorem Kept.mono {fs fs' X X' : List Addr} {h h' : Heap} (x : Kept fs X h h') (h1 : ∀ b ∈ fs, b ∈ fs') (h2 : ∀ b ∈ X, b ∈ X') : Kept fs' X' h h' := fun b o e hx hb => by
  obtain ⟨sl, e1, k1⟩ := x b o e (fun q => hx (h2 b q)) hb
  exact ⟨sl, e1, fun n => k1 fun q => n (h1 b q)⟩
/-- of the new things only what was there counts -/
theorem Kept.old {fs fs' X X' : List Addr} {h h₁ h₂ : Heap} (k : ∀ b o, h.get? b = some o → h₁.get? b = some o) (x : Kept fs' X' h₁ h₂) (h1 : ∀ b ∈ fs', b ∈ fs ∨ h.get? b = none) (h2 : ∀ b ∈ X', b ∈ X ∨ h.get? b = none) : Kept fs X h h₂ := fun b o e hx hb => by
  obtain ⟨sl, e1, k1⟩ := x b o (k b o e) (fun q => (h2 b q).elim hx fun z => by rw [e] at z; cases z) hb
  exact ⟨sl, e1, fun n => k1 fun q => (h1 b q).elim n fun z => by rw [e] at z; cases z⟩
theorem Kept.get {fs X : List Addr} {h h' : Heap} (x : Kept fs X h h') {b : Addr} {o : Obj} (e : h.get? b = some o) (hx : b ∉ X) (hb : ¬ isTb o) (hf : b ∉ fs) : h'.get? b = some o := by
  obtain ⟨sl, e1, k1⟩ := x b o e hx hb
  rw [e1, k1 hf]
theorem Kept.ns {fs X : List Addr} {h h' : Heap} (x : Kept fs X h h') {L : Addr} {m : Str → Option Value} (hn : h.Ns L m) (hx : L ∉ X) : h'.Ns L m := by
  obtain ⟨o, es, ep, ho, hd, r⟩ := hn
  obtain ⟨sl, e1, _⟩ := x L o ho hx fun q => by obtain ⟨_, vs, hv⟩ := q; rw [hd] at hv; cases hv
  exact ⟨_, es, ep, e1, hd, r⟩
theorem Kept.funFrames {fs X : List Addr} {base h h' : Heap} (x : Kept fs X h h') : ∀ {l : List Env}, h.FunFrames base l → (∀ b ∈ l.filterMap (·.frame), b ∉ X) → h'.FunFrames base l
  | [], _, _ => trivial
  | env :: r, ⟨hk, ⟨L, o, hf, hn, ho, hd⟩, hr⟩, hx => by
    have hL : L ∉ X := hx L (List.mem_filterMap.mpr ⟨env, .head _, hf⟩)
    obtain ⟨sl, e1, _⟩ := x L o ho hL fun q => by obtain ⟨_, vs, hv⟩ := q; exact hd vs hv
    exact ⟨hk, ⟨L, _, hf, hn, e1, hd⟩, Kept.funFrames x hr fun b hb => hx b (by obtain ⟨e, he, hq⟩ := List.mem_filterMap.mp hb; exact List.mem_filterMap.mpr ⟨e, .tail _ he, hq⟩)⟩

/-- its traceback's head, and whether it flies -/
def Fly (base h : Heap) (e : Addr) (tb fl : Value) : Prop := ∃ T oT ts, tb = .ref T ∧ T ≠ e ∧ base.get? T = none ∧ h.get? T = some oT ∧ oT.cls = .type "traceback" ∧ oT.data = .fields ts ∧ ts[3]? = some fl

section
variable {M : Model} {A : Around} {E : Value → Shared → Prop} {s : Shared} {base : Heap} {env : Env} {outer : List Env} {L e C : Addr} {d : Option Addr} {a tb ctx fl : Value} {Q : Unit → Shared → Prop}

theorem upd_tb {h : Heap} (he : h.get? e = some (excObj C d a tb ctx)) (v : Value) : (h.update e (Obj.mapFields (·.setIfInBounds 1 v))).get? e = some (excObj C d a v ctx) := Heap.get?_update_self _ he rfl

/-- the frame's entry is laid -/
theorem entry_laid {head : Value} {hadNext : Bool} (hfr : A.frames = some (env :: outer)) (hl : s.heap.FunFrames base (env :: outer)) (hf : env.frame = some L)
    (he : s.heap.get? e = some (excObj C d a tb ctx)) (hst : base.StaysIn s.heap) (hen : base.get? e = none)
    (h : ∀ h' tb', h'.get? e = some (excObj C d a tb' ctx) → Fly base h' e tb' (rawInt L) → Kept ((env :: outer).filterMap (·.frame)) [e] s.heap h' → base.StaysIn h' → Q () { s with heap := h' }) :
    wpAny M A (do let a ← frameOf env; let pl ← entryPlaceOf L hadNext; let b ← EntryCells.newEntry head a .none (rawInt L) .none pl; setField (.ref e) 1 b) Q E s := by
  have hene : e ∉ (env :: outer).filterMap (·.frame) := fun hm => by
    obtain ⟨_, o, ho, hnf⟩ := hl.mem hm
    rw [he] at ho; injection ho with ho; subst ho; exact hnf _ rfl
  refine wpAny_bind (wpAny_frameOf_fun hfr hl hf fun h₁ hs₁ => ?_)
  refine wpAny_bind (wpAny_entryPlaceOf fun pl hpl => ?_)
  unfold EntryCells.newEntry newFields
  refine wpAny_bind (wpAny_newObj_type ?_ (hpl.sizeOk5 _ _ _ _ _))
  have he₁ : h₁.get? e = some (excObj C d a tb ctx) := (hs₁.2.1 e hene).trans he
  have kb₁ : base.StaysIn h₁ := fun b o hbo => (hs₁.2.1 b fun hm => by rw [(hl.mem hm).1] at hbo; cases hbo).trans (hst b o hbo)
  generalize hT : ({ cls := .type "traceback", dict := none, data := .fields ([head, .ref L, .none, rawInt L, .none] ++ (if pl.isEmpty then List.replicate 6 Value.none else pl)).toArray } : Obj) = oT
  have he₂ := Heap.get?_push_of_some (h := h₁) oT he₁
  refine wpAny_setField he₂ rfl (Nat.le_of_ble_eq_true rfl) (h _ (.ref h₁.objs.size) (upd_tb he₂ _) ?_ ?_ ?_)
  · have hTe : h₁.objs.size ≠ e := Nat.ne_of_gt (Heap.lt_size he₁)
    have hT₃ := (Heap.get?_update_other (h₁.push oT) (Obj.mapFields (·.setIfInBounds 1 (Value.ref h₁.objs.size))) (Ne.symm hTe)).trans (Heap.get?_push_size h₁ (by subst hT; rfl))
    refine ⟨h₁.objs.size, oT, _, rfl, hTe, kb₁.fresh, hT₃, by subst hT; rfl, by subst hT; rfl, ?_⟩
    first | (simp; done) | (rcases hpl with rfl | ⟨_, _, _, _, _, _, _, rfl⟩ <;> simp)
  · intro b o hb hx hnt
    have hbe : b ≠ e := fun q => hx (by rw [q]; exact .head _)
    obtain ⟨sl, hs⟩ := hs₁.2.2 b o hb
    refine ⟨sl, ?_, fun n => ?_⟩
    · rw [Heap.get?_update_other _ _ (Ne.symm hbe)]
      exact Heap.get?_push_of_some _ hs
    · have := hs₁.2.1 b n
      rw [hs, hb] at this
      injection this with this
      exact congrArg Obj.slots this
  · intro b o hbo
    have hbe : b ≠ e := fun q => by rw [q, hen] at hbo; cases hbo
    rw [Heap.get?_update_other _ _ (Ne.symm hbe)]
    exact Heap.get?_push_of_some _ (kb₁ b o hbo)

/-- the traceback's head is told whether it flies -/
theorem flight_set {fr : Option Addr} (he : s.heap.get? e = some (excObj C d a tb ctx)) (hF : Fly base s.heap e tb fl) (hst : base.StaysIn s.heap) (fs : List Addr)
    (h : ∀ h', h'.get? e = some (excObj C d a tb ctx) → Fly base h' e tb (fr.elim .none fun f => rawInt f) → Kept fs [e] s.heap h' → base.StaysIn h' → Q () { s with heap := h' }) :
    wpAny M A (setFlight (.ref e) fr) Q E s := by
  obtain ⟨T, oT, ts, rfl, hTe, hTb, hT, hTc, hTd, h3⟩ := hF
  have hsz3 : 3 < ts.size := (Array.getElem?_eq_some_iff.mp h3).1
  have other : ∀ b, b ≠ T → (s.heap.update T (Obj.mapFields (·.setIfInBounds 3 (fr.elim Value.none fun f => rawInt f)))).get? b = s.heap.get? b := fun b hb => Heap.get?_update_other _ _ (Ne.symm hb)
  unfold setFlight
  refine wpAny_bind (wpAny_field he rfl (x := .ref T) rfl ?_)
  rw [if_pos (show (Value.ref T != Value.none) = true from by simp)]
  refine wpAny_setField hT hTd hsz3 (h _ ((other e (Ne.symm hTe)).trans he) ?_ ?_ ?_)
  · exact ⟨T, _, _, rfl, hTe, hTb, Heap.get?_update_self _ hT (Obj.isFreed_of_fields (Obj.data_mapFields hTd _)), (Obj.cls_mapFields _ _).trans hTc, Obj.data_mapFields hTd _, by simp [hsz3]⟩
  · intro b o hb hx hnt
    refine ⟨o.slots, ?_, fun _ => rfl⟩
    rw [other b fun q => hnt ?_]
    · exact hb
    · rw [q, hT] at hb; injection hb with hb; subst hb; exact ⟨hTc, ts, hTd⟩
  · intro b o hbo
    rw [other b fun q => by rw [q, hTb] at hbo; cases hbo]
    exact hst b o hbo

/-- raised here: the first entry -/
theorem note_first (hfr : A.frames = some (env :: outer)) (hl : s.heap.FunFrames base (env :: outer)) (hf : env.frame = some L) (he : s.heap.get? e = some (excObj C d a .none ctx)) (hst : base.StaysIn s.heap) (hen : base.get? e = none)
    (h : ∀ h' tb', h'.get? e = some (excObj C d a tb' ctx) → Fly base h' e tb' (rawInt L) → Kept ((env :: outer).filterMap (·.frame)) [e] s.heap h' → base.StaysIn h' → Q () { s with heap := h' }) :
    wpAny M A (noteFrame (.ref e) env) Q E s := by
  unfold noteFrame
  simp only [hf]
  refine wpAny_bind (wpAny_field he rfl (x := .none) rfl ?_)
  rw [if_neg (by decide)]
  exact entry_laid hfr hl hf he hst hen h

/-- it has been noted in this frame -/
theorem note_again (hf : env.frame = some L) (he : s.heap.get? e = some (excObj C d a tb ctx)) (hF : Fly base s.heap e tb (rawInt L)) (h : Q () s) : wpAny M A (noteFrame (.ref e) env) Q E s := by
  obtain ⟨T, oT, ts, rfl, hTe, hTb, hT, hTc, hTd, h3⟩ := hF
  unfold noteFrame
  simp only [hf]
  refine wpAny_bind (wpAny_field he rfl (x := .ref T) rfl ?_)
  rw [if_pos (show (Value.ref T != Value.none) = true from by simp)]
  refine wpAny_bind (wpAny_field hT hTd h3 ?_)
  rw [if_pos (show (rawInt L == rawInt L) = true from by simp)]
  exact wpAny_pure h

/-- it comes out of a callee -/
theorem note_next (hfr : A.frames = some (env :: outer)) (hl : s.heap.FunFrames base (env :: outer)) (hf : env.frame = some L) (he : s.heap.get? e = some (excObj C d a tb ctx)) (hF : Fly base s.heap e tb .none) (hst : base.StaysIn s.heap) (hen : base.get? e = none)
    (h : ∀ h' tb', h'.get? e = some (excObj C d a tb' ctx) → Fly base h' e tb' (rawInt L) → Kept ((env :: outer).filterMap (·.frame)) [e] s.heap h' → base.StaysIn h' → Q () { s with heap := h' }) :
    wpAny M A (noteFrame (.ref e) env) Q E s := by
  obtain ⟨T, oT, ts, rfl, hTe, hTb, hT, hTc, hTd, h3⟩ := hF
  have hsz3 : 3 < ts.size := (Array.getElem?_eq_some_iff.mp h3).1
  unfold noteFrame
  simp only [hf]
  refine wpAny_bind (wpAny_field he rfl (x := .ref T) rfl ?_)
  rw [if_pos (show (Value.ref T != Value.none) = true from by simp)]
  refine wpAny_bind (wpAny_field hT hTd h3 ?_)
  rw [if_neg (show ¬ ((Value.none == rawInt L) = true) from by simp [rawInt])]
  refine wpAny_bind (wpAny_setField hT hTd hsz3 ?_)
  have other : ∀ b, b ≠ T → (s.heap.update T (Obj.mapFields (·.setIfInBounds 3 Value.none))).get? b = s.heap.get? b := fun b hb => Heap.get?_update_other _ _ (Ne.symm hb)
  have notT : ∀ b o, s.heap.get? b = some o → ¬ isTb o → b ≠ T := fun b o hb hnt q => hnt (by rw [q, hT] at hb; injection hb with hb; subst hb; exact ⟨hTc, ts, hTd⟩)
  have kp : Kept ((env :: outer).filterMap (·.frame)) [e] s.heap (s.heap.update T (Obj.mapFields (·.setIfInBounds 3 Value.none))) := fun b o hb _ hnt => ⟨o.slots, (other b (notT b o hb hnt)).trans hb, fun _ => rfl⟩
  have ff : (s.heap.update T (Obj.mapFields (·.setIfInBounds 3 Value.none))).FunFrames base (env :: outer) := hl.of_keeps fun b o hb hnf => ⟨o, (other b (notT b o hb fun q => by obtain ⟨_, vs, hv⟩ := q; exact hnf vs hv)).trans hb, rfl⟩
  refine entry_laid (s := { s with heap := _ }) hfr ff hf ((other e (Ne.symm hTe)).trans he) (fun b o hbo => (other b fun q => by rw [q, hTb] at hbo; cases hbo).trans (hst b o hbo)) hen fun h' tb' h1 h2 h3 h4 => h h' tb' h1 h2 (kp.trans h3) h4

/-- it leaves the frame that raised it -/
theorem leave_first (hfr : A.frames = some (env :: outer)) (hl : s.heap.FunFrames base (env :: outer)) (hf : env.frame = some L) (he : s.heap.get? e = some (excObj C d a .none ctx)) (hst : base.StaysIn s.heap) (hen : base.get? e = none)
    (h : ∀ h' tb', h'.get? e = some (excObj C d a tb' ctx) → Fly base h' e tb' .none → Kept ((env :: outer).filterMap (·.frame)) [e] s.heap h' → base.StaysIn h' → Q () { s with heap := h' }) :
    wpAny M A (leaving env (.ref e)) Q E s := by
  unfold leaving
  refine wpAny_bind (note_first hfr hl hf he hst hen fun h₁ tb₁ h1 h2 h3 h4 => ?_)
  exact flight_set (s := { s with heap := h₁ }) (fr := none) h1 h2 h4 _ fun h' k1 k2 k3 k4 => h h' tb₁ k1 k2 (h3.trans k3) k4
/-- it leaves a frame that it was noted in -/
theorem leave_again (hf : env.frame = some L) (he : s.heap.get? e = some (excObj C d a tb ctx)) (hF : Fly base s.heap e tb (rawInt L)) (hst : base.StaysIn s.heap) (fs : List Addr)
    (h : ∀ h', h'.get? e = some (excObj C d a tb ctx) → Fly base h' e tb .none → Kept fs [e] s.heap h' → base.StaysIn h' → Q () { s with heap := h' }) :
    wpAny M A (leaving env (.ref e)) Q E s := by
  unfold leaving
  refine wpAny_bind (note_again hf he hF ?_)
  exact flight_set (fr := none) he hF hst fs h
/-- it leaves a frame further out -/
theorem leave_next (hfr : A.frames = some (env :: outer)) (hl : s.heap.FunFrames base (env :: outer)) (hf : env.frame = some L) (he : s.heap.get? e = some (excObj C d a tb ctx)) (hF : Fly base s.heap e tb .none) (hst : base.StaysIn s.heap) (hen : base.get? e = none)
    (h : ∀ h' tb', h'.get? e = some (excObj C d a tb' ctx) → Fly base h' e tb' .none → Kept ((env :: outer).filterMap (·.frame)) [e] s.heap h' → base.StaysIn h' → Q () { s with heap := h' }) :
    wpAny M A (leaving env (.ref e)) Q E s := by
  unfold leaving
  refine wpAny_bind (note_next hfr hl hf he hF hst hen fun h₁ tb₁ h1 h2 h3 h4 => ?_)
  exact flight_set (s := { s with heap := h₁ }) (fr := none) h1 h2 h4 _ fun h' k1 k2 k3 k4 => h h' tb₁ k1 k2 (h3.trans k3) k4
end
end Mine

end
section -- ExcI
set_option maxRecDepth 100000
set_option maxHeartbeats 4000000
set_option linter.unusedSimpArgs false
set_option linter.unusedVariables false
namespace Mine
open PySem PySem.W PySem.Calls PyProof.Rows PySem.Builtin

/-- the contexts behind an exception -/
inductive Ctxs (h : Heap) : Addr → List Addr → Prop
  | last {a C : Addr} {d : Option Addr} {ar tb : Value} : h.get? a = some (excObj C d ar tb .none) → Ctxs h a []
  | step {a b C : Addr} {d : Option Addr} {ar tb : Value} {r : List Addr} : h.get? a = some (excObj C d ar tb (.ref b)) → Ctxs h b r → Ctxs h a (b :: r)
theorem Ctxs.mem {h : Heap} {a : Addr} {r : List Addr} (x : Ctxs h a r) : ∀ b ∈ a :: r, ∃ o, h.get? b = some o := by
  induction x with
  | last he => intro b hb; simp only [List.mem_singleton] at hb; subst hb; exact ⟨_, he⟩
  | step he _ ih => intro b hb; rcases List.mem_cons.mp hb with rfl | hb; exact ⟨_, he⟩; exact ih b hb
theorem Ctxs.keeps {h h' : Heap} {a : Addr} {r : List Addr} (x : Ctxs h a r) (k : ∀ b ∈ a :: r, ∀ o, h.get? b = some o → h'.get? b = some o) : Ctxs h' a r := by
  induction x with
  | last he => exact .last (k _ (.head _) _ he)
  | step he _ ih => exact .step (k _ (.head _) _ he) (ih fun b hb o e => k b (.tail _ hb) o e)
theorem Ctxs.tb {h h' : Heap} {a C : Addr} {d : Option Addr} {ar tb tb' c : Value} {r : List Addr} (x : Ctxs h a r) (he : h.get? a = some (excObj C d ar tb c)) (he' : h'.get? a = some (excObj C d ar tb' c)) (k : ∀ b ∈ r, ∀ o, h.get? b = some o → h'.get? b = some o) : Ctxs h' a r := by
  cases x with
  | last h1 => rw [h1] at he; injection he with he; injection he with e1 e2 e3 e4; injection e3 with e3; have := congrArg (·[2]?) e3; simp at this; subst this; exact .last he'
  | step h1 h2 =>
    rw [h1] at he; injection he with he; injection he with e1 e2 e3 e4; injection e3 with e3; have := congrArg (·[2]?) e3; simp at this; subst this
    exact .step he' (h2.keeps k)
/-- what is next lies behind -/
theorem Ctxs.next {h : Heap} {a o c : Addr} {r : List Addr} (x : Ctxs h a r) (ho : o ∈ a :: r) {C : Addr} {d : Option Addr} {ar tb : Value} (he : h.get? o = some (excObj C d ar tb (.ref c))) : c ∈ r := by
  induction x with
  | last h1 =>
    simp only [List.mem_singleton] at ho
    subst ho
    rw [h1] at he; injection he with he; injection he with e1 e2 e3 e4; injection e3 with e3; have := congrArg (·[2]?) e3; simp at this
  | step h1 h2 ih =>
    rcases List.mem_cons.mp ho with rfl | ho
    · rw [h1] at he; injection he with he; injection he with e1 e2 e3 e4; injection e3 with e3; have := congrArg (·[2]?) e3; simp at this; subst this; exact .head _
    · exact .tail _ (ih ho)

theorem entry_unchain : entryFor table "proto.unchain" = some Builtin.«proto.unchain» := entryFor_of_tree (by kernel_rfl)
theorem unchain_quiet (args : Args) : (Code.builtin "proto.unchain" args).quiet = true := Code.quiet_builtin _ (by decide +kernel)

section
variable {prog : Program} {w : World} {A : Around} {E : Value → Shared → Prop} {s : Shared} {R : Result → Shared → Prop}
theorem unchain {e : Addr} {rem : List Addr} : ∀ {o slow : Addr} {remS : List Addr} {b : Bool}, Ctxs s.heap o rem → Ctxs s.heap slow remS → (slow :: remS).Nodup → e ∉ slow :: remS → o ∈ slow :: remS → R (.ok (.ret .none)) s →
    codeAny (model prog w) A (.builtin "proto.unchain" ⟨[.ref e, .ref o, .ref slow, .bool b], []⟩) R s := by
  induction rem with
  | nil =>
    intro o slow remS b x _ _ _ _ hR
    cases x with
    | last he =>
      refine codeAny_builtin entry_unchain ?_
      unfold Builtin.«proto.unchain»
      refine wpAny_bind (wpAny_field he rfl (x := .none) rfl ?_)
      rw [if_pos (by decide)]
      exact wpAny_pure hR
  | cons c rem ih =>
    intro o slow remS b x y nd ne ho hR
    cases x with
    | step he hx =>
      have hc := y.next ho he
      refine codeAny_builtin entry_unchain ?_
      unfold Builtin.«proto.unchain»
      refine wpAny_bind (wpAny_field he rfl (x := .ref c) rfl ?_)
      have n1 : c ≠ e := fun q => ne (by rw [← q]; exact .tail _ hc)
      have n2 : c ≠ slow := fun q => (List.nodup_cons.mp nd).1 (by rw [← q]; exact hc)
      rw [if_neg (by simp), if_neg (by simp [n1]), if_neg (by simp [n2])]
      cases b with
      | false =>
        refine wpAny_bind (wpAny_pure (wpAny_pure ⟨unchain_quiet _, ?_⟩))
        exact ih hx y nd ne (.tail _ hc) hR
      | true =>
        cases y with
        | last h1 => exact absurd hc (List.not_mem_nil)
        | step h1 h2 =>
          rename_i f r' _ _ _ _
          refine wpAny_bind (wpAny_field h1 rfl (x := .ref f) rfl (wpAny_pure ⟨unchain_quiet _, ?_⟩))
          exact ih hx h2 (List.nodup_cons.mp nd).2 (fun q => ne (.tail _ q)) hc hR

theorem raise_none {env : Env} {x : Sem Value} {Q : Flow → Shared → Prop} (hA : A.handled = none)
    (hx : wpAny (model prog w) A x (fun v s' => ∃ e C d a, v = .ref e ∧ s'.heap.get? e = some (excObj C d a .none .none) ∧ ECls (model prog w) s'.heap C ∧ E (.ref e) s') E s) :
    wpAny (model prog w) A (raiseStmt env (some x) none) Q E s := by
  unfold raiseStmt
  refine wpAny_bind (wpAny_mono hx (fun v s' h => ?_) fun _ _ h => h)
  obtain ⟨e, C, d, a, rfl, he, Y, hE⟩ := h
  obtain ⟨hh, g, dd, t, os⟩ := s'
  have t1 : Looks (model prog w) hh (typeOf (.ref e)) (.ref C) := (Looks.ld he).andThen .now
  have b1 := Y.bexc
  obtain ⟨⟨od, cd, sl, hC, e1, e2, e4, e5⟩, -⟩ := Y
  unfold excFromValue isExcClass isInstance raisedInstance setFlight
  repeat (first | with_reducible refine wpAny_field he rfl (x := .none) rfl ?_ | simp only [Bool.not_true, Bool.false_eq_true, if_false, if_true, bne_self_eq_false] | lk)
  show wpAny _ _ handled _ _ _
  refine wpAny_handled ?_
  rw [hA]
  exact wpAny_throw hE

/-- raised while another one is handled -/
theorem raise_some {env : Env} {x : Sem Value} {Q : Flow → Shared → Prop} {p : Addr} (hA : A.handled = some (.ref p))
    (hx : wpAny (model prog w) A x (fun v s' => ∃ e C d a r, v = .ref e ∧ s'.heap.get? e = some (excObj C d a .none .none) ∧ ECls (model prog w) s'.heap C ∧ Ctxs s'.heap p r ∧ (p :: r).Nodup ∧ e ∉ p :: r ∧
      E (.ref e) { s' with heap := s'.heap.update e (Obj.mapFields (·.setIfInBounds 2 (.ref p))) }) E s) :
    wpAny (model prog w) A (raiseStmt env (some x) none) Q E s := by
  unfold raiseStmt
  refine wpAny_bind (wpAny_mono hx (fun v s' h => ?_) fun _ _ h => h)
  obtain ⟨e, C, d, a, r, rfl, he, Y, hc, nd, ne, hE⟩ := h
  obtain ⟨hh, g, dd, t, os⟩ := s'
  have t1 : Looks (model prog w) hh (typeOf (.ref e)) (.ref C) := (Looks.ld he).andThen .now
  have b1 := Y.bexc
  obtain ⟨⟨od, cd, sl, hC, e1, e2, e4, e5⟩, -⟩ := Y
  have n1 : p ≠ e := fun q => ne (by rw [← q]; exact .head _)
  unfold excFromValue isExcClass isInstance raisedInstance setFlight
  repeat (first | with_reducible refine wpAny_field he rfl (x := .none) rfl ?_ | simp only [Bool.not_true, Bool.false_eq_true, if_false, if_true, bne_self_eq_false] | lk)
  show wpAny _ _ handled _ _ _
  refine wpAny_handled ?_
  rw [hA]
  dsimp only
  rw [if_pos (by simp [n1])]
  refine wpAny_bind (wpAny_holding (wpAny_runValue (unchain hc hc nd ne (.head _) ?_)))
  refine wpAny_bind ?_
  show wpAny _ _ (setField (.ref e) 2 (.ref p)) _ _ _
  exact wpAny_setField he rfl (Nat.le_of_ble_eq_true rfl) (wpAny_throw hE)

theorem exec_raise {env : Env} {x : Expr} {pos : Pos} {Q : Flow → Shared → Prop}
    (h : ∀ t : Sem Value, (∀ s Q' E', wpAny (model prog w) A (eval x env) Q' E' s → wpAny (model prog w) A t Q' E' s) → wpAny (model prog w) A (raiseStmt env (some t) none) Q E s) :
    wpAny (model prog w) A (exec (.Raise (some x) none pos) env) Q E s := by
  rw [arm_exec_Raise]
  first
    | exact wpAny_bind (wpAny_standAt (h _ fun s Q' E' hx => wpAny_bind (wpAny_mono hx (fun v s₁ h₁ => wpAny_bind (wpAny_standAt (wpAny_pure h₁))) fun _ _ z => z)))
    | (simp only [evalOpt, Option.map]; exact wpAny_bind (wpAny_standAt (h _ fun s Q' E' hx => wpAny_bind (wpAny_mono hx (fun v s₁ h₁ => wpAny_bind (wpAny_standAt (wpAny_pure h₁))) fun _ _ z => z))))
end
end Mine

end
section -- ExcJ
set_option maxRecDepth 100000
set_option maxHeartbeats 4000000
set_option linter.unusedSimpArgs false
set_option linter.unusedVariables false
namespace Mine
open PySem PySem.W PySem.Calls PyProof.Rows PySem.Builtin

theorem Kept.same {fs X : List Addr} {h h' : Heap} {L : Addr} (x : Heap.SameBut L h h') (hL : L ∈ X) : Kept fs X h h' := fun b o e hx _ =>
  ⟨o.slots, (x.2 b fun q => hx (by rw [q]; exact hL)).trans e, fun _ => rfl⟩
theorem stays_same {base h h' : Heap} {L : Addr} (x : Heap.SameBut L h h') (k : base.StaysIn h) (hL : base.get? L = none) : base.StaysIn h' := fun b o e => (x.2 b fun q => by rw [q, hL] at e; cases e).trans (k b o e)

section
variable {prog : Program} {w : World} {A : Around} {E : Value → Shared → Prop} {s : Shared} {base : Heap} {K : Frag} {p : Program} {loose : List Str} {mg mb : Str → Option Value} {outer : List Env} {name : Str} {scope : Scope} {L a e C : Addr} {cd ar tb ctx c : Value} {d : Option Addr} {m : Str → Option Value} {x n : Str} {np pos : Pos} {Q : Flow → Shared → Prop}

/-- no clause takes it -/
theorem try_miss {nm : Option Str} {body : List Stmt} (hfr : A.frames = some (envOf name scope L a cd :: outer)) (hl : s.heap.FunFrames base (envOf name scope L a cd :: outer)) (he : s.heap.get? e = some (excObj C d ar tb ctx)) (hF : Fly base s.heap e tb .none) (hst : base.StaysIn s.heap) (hen : base.get? e = none)
    (hns : s.heap.Ns L m) (hLb : base.objs.size ≤ L) (X : K.In base) (T : TopRead p loose mg mb base) (hn : KtsName K x c) (hm : exmOne K (.ref C) c = some false) (hLe : L ≠ e)
    (h : ∀ h' tb', h'.get? e = some (excObj C d ar tb' ctx) → Fly base h' e tb' (rawInt L) → Kept ((envOf name scope L a cd :: outer).filterMap (·.frame)) [e] s.heap h' → base.StaysIn h' → E (.ref e) { s with heap := h' })
    (hk : scope.kind = .function := by rfl) (hx : (envOf name scope L a cd).kindOf x = some .globalImplicit := by rfl) (hd : (x == ("__debug__" : Str)) = false := by decide) :
    wpAny (model prog w) A (noteFrame (.ref e) (envOf name scope L a cd)) (fun _ s₂ => wpAny (model prog w) A (setFlight (.ref e) none) (fun _ s₃ => wpAny (model prog w) A (handleBy (.ref e) (envOf name scope L a cd) [.ExceptHandler (some (.Name x np)) nm body pos]) Q E s₃) E s₂) E s := by
  refine note_next hfr hl rfl he hF hst hen fun h₁ tb₁ a1 a2 a3 a4 => ?_
  refine flight_set (s := { s with heap := h₁ }) (fr := none) a1 a2 a4 ((envOf name scope L a cd :: outer).filterMap (·.frame)) fun h₂ b1 b2 b3 b4 => ?_
  have k2 := a3.trans b3
  have ns2 := k2.ns hns (by simp [hLe])
  have F2 : Fr base L h₂ m := ⟨ns2, b4, hLb⟩
  refine wpAny_handleBy_cons (codeAny_handlers_test (kts_name (s := { s with heap := h₂ }) hn F2 X T ?_ hk hx hd)) (by intro q; cases q)
  have t1 : Looks (model prog w) ({ s with heap := h₂ } : Shared).heap (typeOf (.ref e)) (.ref C) := (Looks.ld b1).andThen .now
  refine (exm_one (X.keeps b4) t1 hm).here ?_
  show wpAny _ _ (handleBy (.ref e) _ []) _ _ _
  refine wpAny_handleBy_nil ?_
  unfold PySem.passOn
  obtain ⟨T', oT, ts, rfl, hTe, hTb, hT, hTc, hTd, h3⟩ := b2
  refine wpAny_bind (wpAny_field b1 rfl (x := .ref T') rfl ?_)
  rw [if_neg (by simp)]
  refine wpAny_bind (flight_set (s := { s with heap := h₂ }) (fr := some L) b1 ⟨T', oT, ts, rfl, hTe, hTb, hT, hTc, hTd, h3⟩ b4 ((envOf name scope L a cd :: outer).filterMap (·.frame)) fun h₃ c1 c2 c3 c4 => ?_)
  exact wpAny_throw (h h₃ _ c1 c2 (k2.trans c3) c4)

/-- the clause takes it -/
theorem try_hit {b₀ : Stmt} {suite : List Stmt} (hfr : A.frames = some (envOf name scope L a cd :: outer)) (hl : s.heap.FunFrames base (envOf name scope L a cd :: outer)) (he : s.heap.get? e = some (excObj C d ar tb ctx)) (hF : Fly base s.heap e tb .none) (hst : base.StaysIn s.heap) (hen : base.get? e = none)
    (hns : s.heap.Ns L m) (hLb : base.objs.size ≤ L) (X : K.In base) (T : TopRead p loose mg mb base) (hn : KtsName K x c) (hm : exmOne K (.ref C) c = some true) (hLe : L ≠ e)
    (h : ∀ h' tb', h'.get? e = some (excObj C d ar tb' ctx) → Fly base h' e tb' .none → Kept ((envOf name scope L a cd :: outer).filterMap (·.frame)) [e, L] s.heap h' → base.StaysIn h' → h'.Ns L (fun y => if y = n then some (.ref e) else m y) →
      wpAny (model prog w) (A.mark (some (.ref e))) (execs (b₀ :: suite) (envOf name scope L a cd))
        (fun f s₄ => wpAny (model prog w) A (do bindName (envOf name scope L a cd) n .none; unbindBehindTheSuite (envOf name scope L a cd) n pos) (fun _ s₅ => Q f s₅) E s₄)
        (AsSuiteRaised (model prog w) (A.mark (some (.ref e))) (envOf name scope L a cd) n pos (notedBy (model prog w) (A.mark (some (.ref e))) (envOf name scope L a cd) (cameBackBy (model prog w) A (envOf name scope L a cd) E))) { s with heap := h', toks := s.toks + 1 })
    (hk : scope.kind = .function := by rfl) (hx : (envOf name scope L a cd).kindOf x = some .globalImplicit := by rfl) (hlo : (envOf name scope L a cd).kindOf n = some .local := by rfl) (hd : (x == ("__debug__" : Str)) = false := by decide) :
    wpAny (model prog w) A (noteFrame (.ref e) (envOf name scope L a cd)) (fun _ s₂ => wpAny (model prog w) A (setFlight (.ref e) none) (fun _ s₃ => wpAny (model prog w) A (handleBy (.ref e) (envOf name scope L a cd) [.ExceptHandler (some (.Name x np)) (some n) (b₀ :: suite) pos]) Q E s₃) E s₂) E s := by
  refine note_next hfr hl rfl he hF hst hen fun h₁ tb₁ a1 a2 a3 a4 => ?_
  refine flight_set (s := { s with heap := h₁ }) (fr := none) a1 a2 a4 ((envOf name scope L a cd :: outer).filterMap (·.frame)) fun h₂ b1 b2 b3 b4 => ?_
  have k2 := a3.trans b3
  have ns2 := k2.ns hns (by simp [hLe])
  have F2 : Fr base L h₂ m := ⟨ns2, b4, hLb⟩
  refine wpAny_handleBy_cons (codeAny_handlers_test (kts_name (s := { s with heap := h₂ }) hn F2 X T ?_ hk hx hd)) (by intro q; cases q)
  have t1 : Looks (model prog w) ({ s with heap := h₂ } : Shared).heap (typeOf (.ref e)) (.ref C) := (Looks.ld b1).andThen .now
  refine (exm_one (X.keeps b4) t1 hm).here ?_
  refine codeAny_handlers_suite_as ?_
  refine flight_set (s := { s with heap := h₂ }) (fr := none) b1 b2 b4 ((envOf name scope L a cd :: outer).filterMap (·.frame)) fun h₃ c1 c2 c3 c4 => ?_
  have k3 := k2.trans c3
  have ns3 := k3.ns hns (by simp [hLe])
  refine wpAny_storeName_local hlo ns3 (fun h₄ hn₄ hs₄ => ?_) (by show (scope.kind == .class || (scope.kind == .module && L != mainGlobals)) = false; rw [hk]; rfl)
  have hbL : base.get? L = none := Heap.get?_none_of_le hLb
  refine h h₄ tb₁ ((hs₄.2 e (Ne.symm hLe)).trans c1) ?_ ((k3.mono (fun _ q => q) (fun _ q => List.mem_cons.mpr (.inl (List.mem_singleton.mp q)))).trans (Kept.same hs₄ (by show L ∈ [e, L]; simp))) (stays_same hs₄ c4 hbL) hn₄
  obtain ⟨T', oT, ts, rfl, hTe, hTb, hT, hTc, hTd, h3⟩ := c2
  refine ⟨T', oT, ts, rfl, hTe, hTb, (hs₄.2 T' fun q => ?_).trans hT, hTc, hTd, h3⟩
  obtain ⟨o, es, ep, ho, hdd, _⟩ := ns3
  rw [q] at hT
  have : some o = some oT := ho.symm.trans hT
  injection this with this
  subst this
  rw [hdd] at hTd; cases hTd

/-- the suite raises another one -/
theorem try_reraise {q : Value} (hfr : A.frames = some (envOf name scope L a cd :: outer)) (hl : s.heap.FunFrames base (envOf name scope L a cd :: outer)) (he : s.heap.get? e = some (excObj C d ar tb ctx)) (hF : Fly base s.heap e tb .none) (hst : base.StaysIn s.heap) (hen : base.get? e = none)
    (hns : s.heap.Ns L m) (hLb : base.objs.size ≤ L) (hLe : L ≠ e)
    (h : ∀ h' tb' tk', h'.get? e = some (excObj C d ar tb' ctx) → Fly base h' e tb' (rawInt L) → Kept ((envOf name scope L a cd :: outer).filterMap (·.frame)) [e, L] s.heap h' → base.StaysIn h' → (∃ m', h'.Ns L m') → E (.ref e) { s with heap := h', toks := tk' })
    (hk : scope.kind = .function := by rfl) (hlo : (envOf name scope L a cd).kindOf n = some .local := by rfl) :
    AsSuiteRaised (model prog w) (A.mark (some q)) (envOf name scope L a cd) n pos (notedBy (model prog w) (A.mark (some q)) (envOf name scope L a cd) (cameBackBy (model prog w) A (envOf name scope L a cd) E)) (.ref e) s := by
  have hbL : base.get? L = none := Heap.get?_none_of_le hLb
  refine note_next (A := A.mark (some q)) hfr hl rfl he hF hst hen fun h₁ tb₁ a1 a2 a3 a4 => ?_
  have ns1 := a3.ns hns (by simp [hLe])
  refine wpAny_nameGoes hlo ns1 (by show (scope.kind == .class || (scope.kind == .module && L != mainGlobals)) = false; rw [hk]; rfl) fun h₂ m₂ hn₂ hs₂ => ?_
  have b1 : h₂.get? e = some (excObj C d ar tb₁ ctx) := (hs₂.2 e (Ne.symm hLe)).trans a1
  have b2 : Fly base h₂ e tb₁ (rawInt L) := by
    obtain ⟨T', oT, ts, rfl, hTe, hTb, hT, hTc, hTd, h3⟩ := a2
    refine ⟨T', oT, ts, rfl, hTe, hTb, (hs₂.2 T' fun q => ?_).trans hT, hTc, hTd, h3⟩
    obtain ⟨o, es, ep, ho, hdd, _⟩ := ns1
    rw [q] at hT
    have : some o = some oT := ho.symm.trans hT
    injection this with this
    subst this
    rw [hdd] at hTd; cases hTd
  have b3 : Kept ((envOf name scope L a cd :: outer).filterMap (·.frame)) [e, L] s.heap h₂ := (a3.mono (fun _ q => q) (fun _ q => List.mem_cons.mpr (.inl (List.mem_singleton.mp q)))).trans (Kept.same hs₂ (by show L ∈ [e, L]; simp))
  have b4 := stays_same hs₂ a4 hbL
  unfold PySem.passOn
  have c := b2
  obtain ⟨T', oT, ts, rfl, hTe, hTb, hT, hTc, hTd, h3⟩ := c
  refine wpAny_bind (wpAny_field b1 rfl (x := .ref T') rfl ?_)
  rw [if_neg (by simp)]
  refine wpAny_bind (flight_set (s := { s with heap := h₂, toks := _ }) (fr := some L) b1 b2 b4 ((envOf name scope L a cd :: outer).filterMap (·.frame)) fun h₃ c1 c2 c3 c4 => ?_)
  refine wpAny_throw ?_
  refine note_again (s := { s with heap := h₃, toks := _ }) rfl c1 c2 ?_
  refine wpAny_bind (wpAny_field c1 rfl (x := .ref T') rfl ?_)
  rw [if_neg (by simp)]
  refine flight_set (s := { s with heap := h₃, toks := _ }) (fr := some L) c1 c2 c4 ((envOf name scope L a cd :: outer).filterMap (·.frame)) fun h₄ d1 d2 d3 d4 => ?_
  have up : ∀ {h h' : Heap}, Kept ((envOf name scope L a cd :: outer).filterMap (·.frame)) [e] h h' → Kept ((envOf name scope L a cd :: outer).filterMap (·.frame)) [e, L] h h' := fun k => k.mono (fun _ q => q) (fun _ q => List.mem_cons.mpr (.inl (List.mem_singleton.mp q)))
  exact h h₄ _ _ d1 d2 ((b3.trans (up c3)).trans (up d3)) d4 ⟨m₂, (c3.trans d3).ns hn₂ (by simp [hLe])⟩
end
end Mine

end
section -- ExcK
set_option maxRecDepth 100000
namespace Mine
open PySem PySem.W PySem.Calls PyProof.Rows
theorem execs_one {prog : Program} {w : World} {A : Around} {E : Value → Shared → Prop} {s : Shared} {env : Env} {st : Stmt} {Q : Flow → Shared → Prop} (h : wpAny (model prog w) A (exec st env) Q E s) : wpAny (model prog w) A (execs [st] env) Q E s :=
  wpAny_execs_cons (wpAny_mono h (fun f _ q => match f, q with | .next, q => wpAny_execs_nil q | .brk, q => q | .cont, q => q | .ret _, q => q) fun _ _ e => e)
end Mine

end
section -- ExcN
open PySem PySem.W PyProof.Rows Mine PySem.Builtin PySem.Builtin.Str
set_option maxRecDepth 100000
set_option maxHeartbeats 400000
set_option linter.unusedVariables false
namespace Mine
theorem str_eq_mp {Q : Value → Shared → Prop} {a b : PySem.Str} (e : a = b) {t : Tok} {s : Shared} (h : Q (.str a t) s) : Q (.str b t) s := e ▸ h
theorem f20_fmt {prog : Program} {w : World} {A : Around} {E : Value → Shared → Prop} {s : Shared} {t u : Tok} {Q : Value → Shared → Prop}
   (h : ∀ t' k, Q (.str (PySem.Str.ofString " [line 20]") t') { s with toks := k }) :
   wpAny (model prog w) A (call (.builtin "str.format") [.str (PySem.Str.ofString " [line {0:2d}]") t, .int 20 u]) Q E s := by
  refine' KFm.call_k ?ka ?kb ?kc ?kd
  case ka => kfm_eq
  case kb => exact KFm.args_2 _ _
  case kc =>
    apply KPc.meets_of
    intro _ _ _ _ _ _ _
    unfold Builtin.«str.format»
    refine wpAny_bind (wpAny_of_eq (a := (_, _, _)) rfl ?_)
    refine wpAny_bind ?_
    unfold Builtin.Str.buildString
    refine wpAny_bind ?_
    rw [KPc.range_list]
    refine KFm.start ?_
    intro _ _
    refine KPc.turn ?_
    kpc_if
    kpc_check
    refine wpAny_bind (Mine.field_index0 (by rfl) ?_)
    refine wpAny_bind (wpAny_holding (wpAny_of_eq (a := _) rfl ?_))
    kpc_if
    refine wpAny_bind (wpAny_pure ?_)
    refine wpAny_bind (wpAny_holding (Mine.formatOf_2d (by decide +kernel) (fun t u => Mine.t20 t u) ?_))
    intro _ _
    refine wpAny_bind (wpAny_of_eq (a := some _) rfl ?_)
    refine wpAny_pure ?_
    refine KFm.after_field (by kpc_g) (by kpc_text) (by kpc_obj) (by kfm_len) (by kpc_obj) (by kfm_cat2) (by kfm_rest) ?_
    intro _ _
    refine KPc.turn ?_
    kpc_if
    kpc_check
    kfm_lit
    refine KPc.turn ?_
    kpc_if
    kfm_close
  case kd =>
    intro t' k
    refine str_eq_mp (a := PySem.Str.ofString " [line 20]") ?_ (h t' k)
    decide +kernel
end Mine

end
section -- ExcM
set_option maxRecDepth 100000
set_option maxHeartbeats 1000000
set_option linter.unusedVariables false
namespace Mine
open PySem PySem.W PySem.Calls PyProof.Rows

def NoRef (es : List DictEntry) : Prop := es.any (·.refKey) = false
theorem isStr_inj {v : Value} {a b : Str} (h1 : v.isStr a = true) (h2 : v.isStr b = true) : a = b := by
  cases v with
  | str x t => exact (eq_of_beq h1).symm.trans (eq_of_beq h2)
  | _ => cases h1
theorem isStr_self (a : Str) (t : Tok) : (Value.str a t).isStr a = true := beq_self_eq_true a
def fnd (y : Str) (es : List DictEntry) : Option Value := (es.find? (·.key.isStr y)).map (·.val)
theorem getL_fnd {y : Str} {es : List DictEntry} (h : NoRef es) : getL y es = some (fnd y es) := by
  unfold getL fnd
  cases es.find? (·.key.isStr y) with
  | none => show (if es.any (·.refKey) then none else some none) = _; rw [h]; rfl
  | some e => rfl
section
variable {name : Str} {hsh : Int} {tk : Tok} {v : Value}
theorem put_noRef : ∀ {es : List DictEntry}, NoRef es → NoRef (putL name hsh (.str name tk) v es)
  | [], _ => rfl
  | e :: r, h => by
    have h' : (e.refKey || r.any (·.refKey)) = false := h
    rw [Bool.or_eq_false_iff] at h'
    unfold putL
    split
    · show (DictEntry.refKey ⟨e.hash, e.key, v⟩ || r.any (·.refKey)) = false
      rw [h'.2, Bool.or_false]; exact h'.1
    · show (e.refKey || (putL name hsh (.str name tk) v r).any (·.refKey)) = false
      rw [h'.1, Bool.false_or]; exact put_noRef h'.2
theorem put_same : ∀ {es : List DictEntry}, fnd name (putL name hsh (.str name tk) v es) = some v
  | [] => by unfold putL fnd; rw [List.find?_cons, isStr_self]; rfl
  | e :: r => by
    unfold putL
    split
    · rename_i h; unfold fnd; rw [List.find?_cons]; show Option.map _ (match e.key.isStr name with | true => _ | false => _) = _; rw [h]; rfl
    · rename_i h; unfold fnd; rw [List.find?_cons, Bool.eq_false_iff.mpr h]; exact put_same
theorem put_other {y : Str} (hy : y ≠ name) : ∀ {es : List DictEntry}, fnd y (putL name hsh (.str name tk) v es) = fnd y es
  | [] => by
    unfold putL fnd; rw [List.find?_cons]
    have : (Value.str name tk).isStr y = false := Bool.eq_false_iff.mpr fun z => hy (isStr_inj z (isStr_self name tk))
    rw [this]
  | e :: r => by
    unfold putL
    split
    · rename_i h
      have : e.key.isStr y = false := Bool.eq_false_iff.mpr fun z => hy (isStr_inj z h)
      unfold fnd; rw [List.find?_cons, List.find?_cons]
      show Option.map _ (match e.key.isStr y with | true => _ | false => _) = _
      rw [this]
    · unfold fnd; rw [List.find?_cons, List.find?_cons]
      cases e.key.isStr y with
      | true => rfl
      | false => exact put_other hy
theorem put_len : ∀ {es : List DictEntry}, (putL name hsh (.str name tk) v es).length ≤ es.length + 1
  | [] => Nat.le_refl _
  | e :: r => by
    unfold putL
    split
    · exact Nat.le_succ _
    · exact Nat.succ_le_succ put_len
end

/-- what a class of ours must bear for its exceptions to be stored into -/
structure CC (K : Frag) (C : Addr) : Prop where
  sa : findIn K (.ref C) "__setattr__" = some (some (.builtin "object.__setattr__"))
  ov : excOver K C = true
  hd : hasDictIn K C = true
  ex : exIn K C = true
  ar : takerIn K C "args" = some (some (.builtin "BaseException.args"))
  ms : takerIn K C "message" = some none
  se : takerIn K C "section" = some none
  op : takerIn K C "option" = some none
  so : takerIn K C "source" = some none
  li : takerIn K C "lineno" = some none
  re : takerIn K C "reference" = some none
/-- the entries have one more, or another -/
structure Put (nm : Str) (v : Value) (es es' : List DictEntry) : Prop where
  nr : NoRef es'
  len : es'.length ≤ es.length + 1
  same : fnd nm es' = some v
  other : ∀ y, y ≠ nm → fnd y es' = fnd y es
section
variable {prog : Program} {w : World} {A : Around} {E : Value → Shared → Prop} {K : Frag} {C x d L a : Addr} {s : Shared} {h₀ : Heap} {m : Str → Option Value} {tl : List (Addr × Obj)} {v ar tb ctx cd : Value} {es : List DictEntry} {n : Nat} {name nm vn : Str} {scope : Scope} {Q : Flow → Shared → Prop} {rest : List Stmt} {p1 p2 p3 p4 : Pos}
/-- self.nm = vn -/
theorem st_attr (F : Fr h₀ L s.heap m) (X₀ : K.In h₀) (N : News h₀ L s.heap ((x, excObj C (some d) ar tb ctx) :: (d, dictOf es n) :: tl)) (off : ∀ p ∈ tl, p.1 ≠ d) (hxd : x ≠ d) (cc : CC K C) (nr : NoRef es) (hl : es.length ≤ 20)
    (hself : m "self" = some (.ref x)) (hv : m vn = some v) (ht : takerIn K C nm = some none)
    (h : ∀ h' es' n' tk', Fr h₀ L h' m → News h₀ L h' ((x, excObj C (some d) ar tb ctx) :: (d, dictOf es' n') :: tl) → Put nm v es es' → wpAny (model prog w) A (execs rest (envOf name scope L a cd)) Q E { s with heap := h', toks := tk' })
    (hk : scope.kind = .function) (k1 : (envOf name scope L a cd).kindOf "self" = some .local) (k2 : (envOf name scope L a cd).kindOf vn = some .local) (dv : (vn == ("__debug__" : Str)) = false)
    (hs : swapsWith (.Name vn p3) (some (.Attribute (.Name "self" p1) nm p2)) p4.line (envOf name scope L a cd) = pure false) :
    wpAny (model prog w) A (execs (.Assign [.Attribute (.Name "self" p1) nm p2] (.Name vn p3) p4 :: rest) (envOf name scope L a cd)) Q E s := by
  refine wpAny_execs_cons (plainObj_wpAny_Assign_Attribute (ld F hv (ld F hself ?_ hk k1 (by decide)) hk k2 dv) hs)
  refine set_exc F X₀ N (.head _) (.tail _ (.head _)) cc.sa cc.ov ht cc.hd ?_ rfl (.tail hxd (.head off)) ?_ fun h' F' N' => ?_
  · rw [getL_fnd nr]; rfl
  · exact Nat.le_trans put_len (by omega)
  · exact h h' _ _ _ F' N' ⟨put_noRef nr, put_len, put_same, fun y hy => put_other hy⟩
/-- names and their values -/
inductive NamesV (env : Env) (m : Str → Option Value) : List Expr → List Value → Prop
  | nil : NamesV env m [] []
  | cons {x : Str} {p : Pos} {v : Value} {es : List Expr} {vs : List Value} : m x = some v → env.kindOf x = some .local → (x == ("__debug__" : Str)) = false → NamesV env m es vs → NamesV env m (.Name x p :: es) (v :: vs)
theorem spl_names {pos : Pos} {cl : List (Str × Addr)} (F : Fr h₀ L s.heap m) (hk : scope.kind = .function) : ∀ {es : List Expr} {vs : List Value} {Q : List Value → Shared → Prop}, NamesV (envX name scope L a cd cl) m es vs → Q vs s → wpAny (model prog w) A (spliced (backTo pos (starEach es (envX name scope L a cd cl)))) Q E s
  | _, _, _, .nil, h => args_nil h
  | _, _, _, .cons h1 h2 h3 r, h => args_cons (nameX_L F h1 (spl_names F hk r h) hk h2 h3)
/-- self.args = (..) -/
theorem st_args {elts : List Expr} {vs : List Value} {k : Nat} {p0 : Pos} (F : Fr h₀ L s.heap m) (X₀ : K.In h₀) (N : News h₀ L s.heap ((x, excObj C (some d) ar tb ctx) :: (d, dictOf es n) :: tl)) (off : ∀ p ∈ tl, p.1 ≠ x) (hxd : x ≠ d) (cc : CC K C)
    (hself : m "self" = some (.ref x)) (hv : NamesV (envOf name scope L a cd) m elts vs) (hz : vs.length ≤ 20)
    (h : ∀ h' t tk', Fr h₀ L h' m → News h₀ L h' ((t, tupObj vs) :: (x, excObj C (some d) (.ref t) tb ctx) :: (d, dictOf es n) :: tl) → (∀ p ∈ (x, excObj C (some d) ar tb ctx) :: (d, dictOf es n) :: tl, p.1 < t) → wpAny (model prog w) A (execs rest (envOf name scope L a cd)) Q E { s with heap := h', toks := tk' })
    (hk : scope.kind = .function) (k1 : (envOf name scope L a cd).kindOf "self" = some .local)
    (hs : swapsWith (.Tuple elts k p0) (some (.Attribute (.Name "self" p1) "args" p2)) p4.line (envOf name scope L a cd) = pure false) :
    wpAny (model prog w) A (execs (.Assign [.Attribute (.Name "self" p1) "args" p2] (.Tuple elts k p0) p4 :: rest) (envOf name scope L a cd)) Q E s := by
  refine wpAny_execs_cons (plainObj_wpAny_Assign_Attribute (Tuple_ (spl_names (cl := []) F hk hv (kup_newTuple F N (fun t h' F' N' lt => ?_) (Nat.le_trans hz (by rw [sizeLine_eq]; decide))))) hs)
  refine ld F' hself ?_ hk k1 (by decide)
  have lx := lt _ (.head _)
  refine set_excArgs F' X₀ N' (inst_exc N' (.tail _ (.head _)) (.tail _ (.tail _ (.head _)))) cc.sa cc.ov cc.ex cc.ar (News.isTup N' (.head _)) (.tail (Nat.ne_of_gt lx) (.head fun p hp => (List.mem_cons.mp hp).elim (fun z => z ▸ Ne.symm hxd) (off p))) fun h2 F2 N2 => ?_
  exact h h2 t _ F2 N2 lt
end
end Mine

end
section -- H2
open PySem PySem.W PyProof.Rows
namespace Mine
set_option maxRecDepth 100000
set_option maxHeartbeats 8000000
set_option linter.unusedVariables false
noncomputable abbrev pE : PySem.Program := PySem.Challenge.rw_dv0002_02.row.toRowW.prog
noncomputable def sAt (i : Nat) : PySem.Stmt := pE.main.body.getD i (PySem.Stmt.Pass default)
noncomputable def sIn (i j : Nat) : PySem.Stmt := match sAt i with | .ClassDef _ _ _ b _ _ _ _ _ _ _ => b.getD j (PySem.Stmt.Pass default) | _ => PySem.Stmt.Pass default
noncomputable def fP (s : PySem.Stmt) : PySem.Arguments := match s with | .FunctionDef _ a _ _ _ _ _ _ _ _ => a | _ => default
noncomputable def fB (s : PySem.Stmt) : List PySem.Stmt := match s with | .FunctionDef _ _ b _ _ _ _ _ _ _ => b | _ => []
noncomputable def fQ (s : PySem.Stmt) : PySem.Pos := match s with | .FunctionDef _ _ _ _ _ _ _ _ _ p => p | _ => default
noncomputable def fS (s : PySem.Stmt) : PySem.Scope := match s with | .FunctionDef _ _ _ _ _ _ s _ _ _ => s | _ => default
noncomputable def hd.view_39 : PySem.Program := { pE with main := { pE.main with body := [sAt 1, sAt 2, sAt 3, sAt 4, sAt 5, sAt 6, sAt 7, sAt 8, sAt 9, sAt 10, sAt 12, sAt 13, sAt 14, sAt 15, sAt 16, sAt 17] } }
noncomputable def hd.heap_39 : (∀ (x : PySem.Params), PySem.W.Frag) := fun P => (fun (p2x0 : PySem.Arguments) (b2x0 : List PySem.Stmt) (s2x0 : PySem.Scope) (p2x1 : PySem.Arguments) (b2x1 : List PySem.Stmt) (s2x1 : PySem.Scope) (p3x0 : PySem.Arguments) (b3x0 : List PySem.Stmt) (s3x0 : PySem.Scope) (p4x0 : PySem.Arguments) (b4x0 : List PySem.Stmt) (s4x0 : PySem.Scope) (p5x0 : PySem.Arguments) (b5x0 : List PySem.Stmt) (s5x0 : PySem.Scope) (p6x0 : PySem.Arguments) (b6x0 : List PySem.Stmt) (s6x0 : PySem.Scope) (p7x0 : PySem.Arguments) (b7x0 : List PySem.Stmt) (s7x0 : PySem.Scope) (p8x0 : PySem.Arguments) (b8x0 : List PySem.Stmt) (s8x0 : PySem.Scope) (p10x0 : PySem.Arguments) (b10x0 : List PySem.Stmt) (s10x0 : PySem.Scope) (p12 : PySem.Arguments) (b12 : List PySem.Stmt) (s12 : PySem.Scope) (p13 : PySem.Arguments) (b13 : List PySem.Stmt) (s13 : PySem.Scope) (p14 : PySem.Arguments) (b14 : List PySem.Stmt) (s14 : PySem.Scope) (p15 : PySem.Arguments) (b15 : List PySem.Stmt) (s15 : PySem.Scope) (p16 : PySem.Arguments) (b16 : List PySem.Stmt) (s16 : PySem.Scope) (p17 : PySem.Arguments) (b17 : List PySem.Stmt) (s17 : PySem.Scope) (_ : fP (sIn 2 0) = p2x0) (_ : fB (sIn 2 0) = b2x0) (_ : fS (sIn 2 0) = s2x0) (_ : fP (sIn 2 1) = p2x1) (_ : fB (sIn 2 1) = b2x1) (_ : fS (sIn 2 1) = s2x1) (_ : fP (sIn 3 0) = p3x0) (_ : fB (sIn 3 0) = b3x0) (_ : fS (sIn 3 0) = s3x0) (_ : fP (sIn 4 0) = p4x0) (_ : fB (sIn 4 0) = b4x0) (_ : fS (sIn 4 0) = s4x0) (_ : fP (sIn 5 0) = p5x0) (_ : fB (sIn 5 0) = b5x0) (_ : fS (sIn 5 0) = s5x0) (_ : fP (sIn 6 0) = p6x0) (_ : fB (sIn 6 0) = b6x0) (_ : fS (sIn 6 0) = s6x0) (_ : fP (sIn 7 0) = p7x0) (_ : fB (sIn 7 0) = b7x0) (_ : fS (sIn 7 0) = s7x0) (_ : fP (sIn 8 0) = p8x0) (_ : fB (sIn 8 0) = b8x0) (_ : fS (sIn 8 0) = s8x0) (_ : fP (sIn 10 0) = p10x0) (_ : fB (sIn 10 0) = b10x0) (_ : fS (sIn 10 0) = s10x0) (_ : fP (sAt 12) = p12) (_ : fB (sAt 12) = b12) (_ : fS (sAt 12) = s12) (_ : fP (sAt 13) = p13) (_ : fB (sAt 13) = b13) (_ : fS (sAt 13) = s13) (_ : fP (sAt 14) = p14) (_ : fB (sAt 14) = b14) (_ : fS (sAt 14) = s14) (_ : fP (sAt 15) = p15) (_ : fB (sAt 15) = b15) (_ : fS (sAt 15) = s15) (_ : fP (sAt 16) = p16) (_ : fB (sAt 16) = b16) (_ : fS (sAt 16) = s16) (_ : fP (sAt 17) = p17) (_ : fB (sAt 17) = b17) (_ : fS (sAt 17) = s17) =>
   ((nat_lit 2, (PySem.Obj.mk PySem.Value.none (Option.none) (PySem.Data.dict #[(PySem.DictEntry.mk (PySem.PyData.keyHash P (PySem.Str.ofString "type.__subclasses__.Exception.0")) (PySem.Value.str (PySem.Str.ofString "type.__subclasses__.Exception.0") 225) (PySem.Value.int (39 : Int) 0)), (PySem.DictEntry.mk (PySem.PyData.keyHash P (PySem.Str.ofString "type.__subclasses__.Exception.n")) (PySem.Value.str (PySem.Str.ofString "type.__subclasses__.Exception.n") 226) (PySem.Value.int (1 : Int) 0))] 2) #[])) ::
    (nat_lit 3, (PySem.Obj.mk (PySem.Value.type "dict") (Option.none) (PySem.Data.dict #[(PySem.DictEntry.mk (PySem.PyData.keyHash P (PySem.Str.ofString "__name__")) (PySem.Value.str (PySem.Str.ofString "__name__") 165) (PySem.Value.str (PySem.Str.ofString "law_dv0002_02") 452)), (PySem.DictEntry.mk (PySem.PyData.keyHash P (PySem.Str.ofString "__doc__")) (PySem.Value.str (PySem.Str.ofString "__doc__") 166) PySem.Value.none), (PySem.DictEntry.mk (PySem.PyData.keyHash P (PySem.Str.ofString "__package__")) (PySem.Value.str (PySem.Str.ofString "__package__") 167) PySem.Value.none), (PySem.DictEntry.mk (PySem.PyData.keyHash P (PySem.Str.ofString "__loader__")) (PySem.Value.str (PySem.Str.ofString "__loader__") 168) (PySem.Value.builtin "__main__.__loader__#opaque")), (PySem.DictEntry.mk (PySem.PyData.keyHash P (PySem.Str.ofString "__spec__")) (PySem.Value.str (PySem.Str.ofString "__spec__") 169) PySem.Value.none), (PySem.DictEntry.mk (PySem.PyData.keyHash P (PySem.Str.ofString "__annotations__")) (PySem.Value.str (PySem.Str.ofString "__annotations__") 170) (PySem.Value.ref 6)), (PySem.DictEntry.mk (PySem.PyData.keyHash P (PySem.Str.ofString "__builtins__")) (PySem.Value.str (PySem.Str.ofString "__builtins__") 171) (PySem.Value.ref 4)), (PySem.DictEntry.mk (PySem.PyData.keyHash P (PySem.Str.ofString "__file__")) (PySem.Value.str (PySem.Str.ofString "__file__") 173) (PySem.Value.str (PySem.Str.ofString "/claim/cut.py") 172)), (PySem.DictEntry.mk (PySem.PyData.keyHash P (PySem.Str.ofString "__cached__")) (PySem.Value.str (PySem.Str.ofString "__cached__") 174) PySem.Value.none), (PySem.DictEntry.mk (PySem.PyData.keyHash P (PySem.Str.ofString "MAX_INTERPOLATION_DEPTH")) (PySem.Value.str (PySem.Str.ofString "MAX_INTERPOLATION_DEPTH") 190) (PySem.Value.int (10 : Int) 189)), (PySem.DictEntry.mk (PySem.PyData.keyHash P (PySem.Str.ofString "Error")) (PySem.Value.str (PySem.Str.ofString "Error") 228) (PySem.Value.ref 39)), (PySem.DictEntry.mk (PySem.PyData.keyHash P (PySem.Str.ofString "NoSectionError")) (PySem.Value.str (PySem.Str.ofString "NoSectionError") 254) (PySem.Value.ref 59)), (PySem.DictEntry.mk (PySem.PyData.keyHash P (PySem.Str.ofString "DuplicateSectionError")) (PySem.Value.str (PySem.Str.ofString "DuplicateSectionError") 286) (PySem.Value.ref 79)), (PySem.DictEntry.mk (PySem.PyData.keyHash P (PySem.Str.ofString "DuplicateOptionError")) (PySem.Value.str (PySem.Str.ofString "DuplicateOptionError") 320) (PySem.Value.ref 99)), (PySem.DictEntry.mk (PySem.PyData.keyHash P (PySem.Str.ofString "NoOptionError")) (PySem.Value.str (PySem.Str.ofString "NoOptionError") 348) (PySem.Value.ref 118)), (PySem.DictEntry.mk (PySem.PyData.keyHash P (PySem.Str.ofString "InterpolationError")) (PySem.Value.str (PySem.Str.ofString "InterpolationError") 377) (PySem.Value.ref 137)), (PySem.DictEntry.mk (PySem.PyData.keyHash P (PySem.Str.ofString "InterpolationMissingOptionError")) (PySem.Value.str (PySem.Str.ofString "InterpolationMissingOptionError") 407) (PySem.Value.ref 156)), (PySem.DictEntry.mk (PySem.PyData.keyHash P (PySem.Str.ofString "InterpolationSyntaxError")) (PySem.Value.str (PySem.Str.ofString "InterpolationSyntaxError") 423) (PySem.Value.ref 168)), (PySem.DictEntry.mk (PySem.PyData.keyHash P (PySem.Str.ofString "InterpolationDepthError")) (PySem.Value.str (PySem.Str.ofString "InterpolationDepthError") 451) (PySem.Value.ref 187)), (PySem.DictEntry.mk (PySem.PyData.keyHash P (PySem.Str.ofString "_law_error")) (PySem.Value.str (PySem.Str.ofString "_law_error") 460) (PySem.Value.ref 196)), (PySem.DictEntry.mk (PySem.PyData.keyHash P (PySem.Str.ofString "_law_on")) (PySem.Value.str (PySem.Str.ofString "_law_on") 469) (PySem.Value.ref 203)), (PySem.DictEntry.mk (PySem.PyData.keyHash P (PySem.Str.ofString "_law_through")) (PySem.Value.str (PySem.Str.ofString "_law_through") 481) (PySem.Value.ref 210)), (PySem.DictEntry.mk (PySem.PyData.keyHash P (PySem.Str.ofString "_law_words")) (PySem.Value.str (PySem.Str.ofString "_law_words") 488) (PySem.Value.ref 217)), (PySem.DictEntry.mk (PySem.PyData.keyHash P (PySem.Str.ofString "_law_due")) (PySem.Value.str (PySem.Str.ofString "_law_due") 501) (PySem.Value.ref 224)), (PySem.DictEntry.mk (PySem.PyData.keyHash P (PySem.Str.ofString "law")) (PySem.Value.str (PySem.Str.ofString "law") 507) (PySem.Value.ref 229))] 25) #[])) ::
    (nat_lit 15, (PySem.Obj.mk (PySem.Value.type "tuple") (Option.none) (PySem.Data.seq #[(PySem.Value.type "Exception")] 0) #[])) ::
    (nat_lit 22, (PySem.Obj.mk (PySem.Value.type "tuple") (Option.none) (PySem.Data.seq #[(PySem.Value.str (PySem.Str.ofString "") 203)] 0) #[])) ::
    (nat_lit 23, (PySem.Obj.mk (PySem.Value.type "tuple") (Option.none) (PySem.Data.seq #[] 0) #[])) ::
    (nat_lit 25, (PySem.Obj.mk (PySem.Value.type "tuple") (Option.none) (PySem.Data.seq #[(PySem.Value.str (PySem.Str.ofString "self") 207), (PySem.Value.str (PySem.Str.ofString "msg") 208)] 0) #[])) ::
    (nat_lit 26, (PySem.Obj.mk (PySem.Value.type "tuple") (Option.none) (PySem.Data.seq #[] 0) #[])) ::
    (nat_lit 28, (PySem.Obj.mk (PySem.Value.type "code") (Option.none) (PySem.Data.fields #[(PySem.Value.str (PySem.Str.ofString "__init__") 204), (PySem.Value.str (PySem.Str.ofString "Error.__init__") 205), (PySem.Value.str (PySem.Str.ofString "/claim/cut.py") 206), (PySem.Value.int (5 : Int) 0), (PySem.Value.int (2 : Int) 0), (PySem.Value.int (0 : Int) 0), (PySem.Value.int (0 : Int) 0), (PySem.Value.int (3 : Int) 0), (PySem.Value.ref 23), (PySem.Value.bool Bool.true), (PySem.Value.int (181 : Int) 0), (PySem.Value.ref 24), PySem.Value.none, (PySem.Value.ref 25), (PySem.Value.ref 26), (PySem.Value.ref 27), (PySem.Value.int (209 : Int) 0), (PySem.Value.int (5 : Int) 0), (PySem.Value.str (PySem.Str.ofString "/claim/cut.py") 210)]) #[])) ::
    (nat_lit 29, (PySem.Obj.mk (PySem.Value.type "function") (Option.none) (PySem.Data.func (PySem.FuncData.mk (PySem.Str.ofString "__init__") (PySem.Str.ofString "Error.__init__") p2x0 (PySem.FuncBody.stmts b2x0) s2x0 3 ([] : List (Prod PySem.Str Nat)) (PySem.Value.ref 22) PySem.Value.none PySem.Value.none (PySem.Value.str (PySem.Str.ofString "cpy313.configparser") 187) (Option.none) (PySem.Value.ref 28) PySem.Value.none 0)) #[])) ::
    (nat_lit 30, (PySem.Obj.mk (PySem.Value.type "tuple") (Option.none) (PySem.Data.seq #[] 0) #[])) ::
    (nat_lit 32, (PySem.Obj.mk (PySem.Value.type "tuple") (Option.none) (PySem.Data.seq #[(PySem.Value.str (PySem.Str.ofString "self") 215)] 0) #[])) ::
    (nat_lit 33, (PySem.Obj.mk (PySem.Value.type "tuple") (Option.none) (PySem.Data.seq #[] 0) #[])) ::
    (nat_lit 35, (PySem.Obj.mk (PySem.Value.type "code") (Option.none) (PySem.Data.fields #[(PySem.Value.str (PySem.Str.ofString "__repr__") 212), (PySem.Value.str (PySem.Str.ofString "Error.__repr__") 213), (PySem.Value.str (PySem.Str.ofString "/claim/cut.py") 214), (PySem.Value.int (9 : Int) 0), (PySem.Value.int (1 : Int) 0), (PySem.Value.int (0 : Int) 0), (PySem.Value.int (0 : Int) 0), (PySem.Value.int (3 : Int) 0), (PySem.Value.ref 30), (PySem.Value.bool Bool.true), (PySem.Value.int (181 : Int) 0), (PySem.Value.ref 31), PySem.Value.none, (PySem.Value.ref 32), (PySem.Value.ref 33), (PySem.Value.ref 34), (PySem.Value.int (216 : Int) 0), (PySem.Value.int (9 : Int) 0), (PySem.Value.str (PySem.Str.ofString "/claim/cut.py") 217)]) #[])) ::
    (nat_lit 36, (PySem.Obj.mk (PySem.Value.type "function") (Option.none) (PySem.Data.func (PySem.FuncData.mk (PySem.Str.ofString "__repr__") (PySem.Str.ofString "Error.__repr__") p2x1 (PySem.FuncBody.stmts b2x1) s2x1 3 ([] : List (Prod PySem.Str Nat)) PySem.Value.none PySem.Value.none PySem.Value.none (PySem.Value.str (PySem.Str.ofString "cpy313.configparser") 187) (Option.none) (PySem.Value.ref 35) PySem.Value.none 0)) #[])) ::
    (nat_lit 37, (PySem.Obj.mk (PySem.Value.type "tuple") (Option.none) (PySem.Data.seq #[(PySem.Value.str (PySem.Str.ofString "message") 220)] 0) #[])) ::
    (nat_lit 38, (PySem.Obj.mk (PySem.Value.type "dict") (Option.none) (PySem.Data.dict #[(PySem.DictEntry.mk (PySem.PyData.keyHash P (PySem.Str.ofString "__module__")) (PySem.Value.str (PySem.Str.ofString "__module__") 198) (PySem.Value.str (PySem.Str.ofString "cpy313.configparser") 187)), (PySem.DictEntry.mk (PySem.PyData.keyHash P (PySem.Str.ofString "__firstlineno__")) (PySem.Value.str (PySem.Str.ofString "__firstlineno__") 202) (PySem.Value.int (3 : Int) 201)), (PySem.DictEntry.mk (PySem.PyData.keyHash P (PySem.Str.ofString "__init__")) (PySem.Value.str (PySem.Str.ofString "__init__") 211) (PySem.Value.ref 29)), (PySem.DictEntry.mk (PySem.PyData.keyHash P (PySem.Str.ofString "__repr__")) (PySem.Value.str (PySem.Str.ofString "__repr__") 218) (PySem.Value.ref 36)), (PySem.DictEntry.mk (PySem.PyData.keyHash P (PySem.Str.ofString "__str__")) (PySem.Value.str (PySem.Str.ofString "__str__") 219) (PySem.Value.ref 36)), (PySem.DictEntry.mk (PySem.PyData.keyHash P (PySem.Str.ofString "__static_attributes__")) (PySem.Value.str (PySem.Str.ofString "__static_attributes__") 221) (PySem.Value.ref 37)), (PySem.DictEntry.mk (PySem.PyData.keyHash P (PySem.Str.ofString "__weakref__")) (PySem.Value.str (PySem.Str.ofString "__weakref__") 223) (PySem.Value.ref 40)), (PySem.DictEntry.mk (PySem.PyData.keyHash P (PySem.Str.ofString "__doc__")) (PySem.Value.str (PySem.Str.ofString "__doc__") 224) PySem.Value.none)] 3) #[])) ::
    (nat_lit 39, (PySem.Obj.mk (PySem.Value.type "type") (Option.none) (PySem.Data.cls (PySem.ClassData.mk (PySem.Str.ofString "Error") [(PySem.Value.type "Exception")] [(PySem.Value.ref 39), (PySem.Value.type "Exception"), (PySem.Value.type "BaseException"), (PySem.Value.type "object")] 38 (PySem.Str.ofString "Error") Bool.true ([] : List PySem.Str) [(PySem.Value.ref 59), (PySem.Value.ref 79), (PySem.Value.ref 99), (PySem.Value.ref 118), (PySem.Value.ref 137)] Bool.false (Option.none) Bool.false)) #[(Option.some (PySem.Value.ref 15)), (Option.none), (Option.some (PySem.Value.str (PySem.Str.ofString "Error") 191)), (Option.some (PySem.Value.str (PySem.Str.ofString "Error") 199)), (Option.some (PySem.Value.builtin "Exception.__new__")), (Option.some (PySem.Value.bool Bool.true))])) ::
    (nat_lit 40, (PySem.Obj.mk (PySem.Value.type "getset_descriptor") (Option.none) (PySem.Data.fields #[(PySem.Value.str (PySem.Str.ofString "__weakref__") 222), (PySem.Value.ref 39), (PySem.Value.builtin "ExceptionGroup.__weakref__"), PySem.Value.none]) #[])) ::
    (nat_lit 43, (PySem.Obj.mk (PySem.Value.type "tuple") (Option.none) (PySem.Data.seq #[(PySem.Value.ref 39)] 0) #[])) ::
    (nat_lit 50, (PySem.Obj.mk (PySem.Value.type "tuple") (Option.none) (PySem.Data.seq #[] 0) #[])) ::
    (nat_lit 52, (PySem.Obj.mk (PySem.Value.type "tuple") (Option.none) (PySem.Data.seq #[(PySem.Value.str (PySem.Str.ofString "self") 244), (PySem.Value.str (PySem.Str.ofString "section") 245)] 0) #[])) ::
    (nat_lit 53, (PySem.Obj.mk (PySem.Value.type "tuple") (Option.none) (PySem.Data.seq #[] 0) #[])) ::
    (nat_lit 55, (PySem.Obj.mk (PySem.Value.type "code") (Option.none) (PySem.Data.fields #[(PySem.Value.str (PySem.Str.ofString "__init__") 241), (PySem.Value.str (PySem.Str.ofString "NoSectionError.__init__") 242), (PySem.Value.str (PySem.Str.ofString "/claim/cut.py") 243), (PySem.Value.int (14 : Int) 0), (PySem.Value.int (2 : Int) 0), (PySem.Value.int (0 : Int) 0), (PySem.Value.int (0 : Int) 0), (PySem.Value.int (3 : Int) 0), (PySem.Value.ref 50), (PySem.Value.bool Bool.true), (PySem.Value.int (181 : Int) 0), (PySem.Value.ref 51), PySem.Value.none, (PySem.Value.ref 52), (PySem.Value.ref 53), (PySem.Value.ref 54), (PySem.Value.int (246 : Int) 0), (PySem.Value.int (14 : Int) 0), (PySem.Value.str (PySem.Str.ofString "/claim/cut.py") 247)]) #[])) ::
    (nat_lit 56, (PySem.Obj.mk (PySem.Value.type "function") (Option.none) (PySem.Data.func (PySem.FuncData.mk (PySem.Str.ofString "__init__") (PySem.Str.ofString "NoSectionError.__init__") p3x0 (PySem.FuncBody.stmts b3x0) s3x0 3 ([] : List (Prod PySem.Str Nat)) PySem.Value.none PySem.Value.none PySem.Value.none (PySem.Value.str (PySem.Str.ofString "cpy313.configparser") 187) (Option.none) (PySem.Value.ref 55) PySem.Value.none 0)) #[])) ::
    (nat_lit 57, (PySem.Obj.mk (PySem.Value.type "tuple") (Option.none) (PySem.Data.seq #[(PySem.Value.str (PySem.Str.ofString "args") 249), (PySem.Value.str (PySem.Str.ofString "section") 250)] 0) #[])) ::
    (nat_lit 58, (PySem.Obj.mk (PySem.Value.type "dict") (Option.none) (PySem.Data.dict #[(PySem.DictEntry.mk (PySem.PyData.keyHash P (PySem.Str.ofString "__module__")) (PySem.Value.str (PySem.Str.ofString "__module__") 236) (PySem.Value.str (PySem.Str.ofString "cpy313.configparser") 187)), (PySem.DictEntry.mk (PySem.PyData.keyHash P (PySem.Str.ofString "__firstlineno__")) (PySem.Value.str (PySem.Str.ofString "__firstlineno__") 240) (PySem.Value.int (12 : Int) 239)), (PySem.DictEntry.mk (PySem.PyData.keyHash P (PySem.Str.ofString "__init__")) (PySem.Value.str (PySem.Str.ofString "__init__") 248) (PySem.Value.ref 56)), (PySem.DictEntry.mk (PySem.PyData.keyHash P (PySem.Str.ofString "__static_attributes__")) (PySem.Value.str (PySem.Str.ofString "__static_attributes__") 251) (PySem.Value.ref 57)), (PySem.DictEntry.mk (PySem.PyData.keyHash P (PySem.Str.ofString "__doc__")) (PySem.Value.str (PySem.Str.ofString "__doc__") 252) PySem.Value.none)] 2) #[])) ::
    (nat_lit 59, (PySem.Obj.mk (PySem.Value.type "type") (Option.none) (PySem.Data.cls (PySem.ClassData.mk (PySem.Str.ofString "NoSectionError") [(PySem.Value.ref 39)] [(PySem.Value.ref 59), (PySem.Value.ref 39), (PySem.Value.type "Exception"), (PySem.Value.type "BaseException"), (PySem.Value.type "object")] 58 (PySem.Str.ofString "NoSectionError") Bool.true ([] : List PySem.Str) ([] : List PySem.Value) Bool.false (Option.none) Bool.false)) #[(Option.some (PySem.Value.ref 43)), (Option.none), (Option.some (PySem.Value.str (PySem.Str.ofString "NoSectionError") 229)), (Option.some (PySem.Value.str (PySem.Str.ofString "NoSectionError") 237)), (Option.some (PySem.Value.builtin "Exception.__new__")), (Option.some (PySem.Value.bool Bool.true))])) ::
    (nat_lit 62, (PySem.Obj.mk (PySem.Value.type "tuple") (Option.none) (PySem.Data.seq #[(PySem.Value.ref 39)] 0) #[])) ::
    (nat_lit 69, (PySem.Obj.mk (PySem.Value.type "tuple") (Option.none) (PySem.Data.seq #[PySem.Value.none, PySem.Value.none] 0) #[])) ::
    (nat_lit 70, (PySem.Obj.mk (PySem.Value.type "tuple") (Option.none) (PySem.Data.seq #[] 0) #[])) ::
    (nat_lit 72, (PySem.Obj.mk (PySem.Value.type "tuple") (Option.none) (PySem.Data.seq #[(PySem.Value.str (PySem.Str.ofString "self") 270), (PySem.Value.str (PySem.Str.ofString "section") 271), (PySem.Value.str (PySem.Str.ofString "source") 272), (PySem.Value.str (PySem.Str.ofString "lineno") 273), (PySem.Value.str (PySem.Str.ofString "msg") 274), (PySem.Value.str (PySem.Str.ofString "message") 275)] 0) #[])) ::
    (nat_lit 73, (PySem.Obj.mk (PySem.Value.type "tuple") (Option.none) (PySem.Data.seq #[] 0) #[])) ::
    (nat_lit 75, (PySem.Obj.mk (PySem.Value.type "code") (Option.none) (PySem.Data.fields #[(PySem.Value.str (PySem.Str.ofString "__init__") 267), (PySem.Value.str (PySem.Str.ofString "DuplicateSectionError.__init__") 268), (PySem.Value.str (PySem.Str.ofString "/claim/cut.py") 269), (PySem.Value.int (20 : Int) 0), (PySem.Value.int (4 : Int) 0), (PySem.Value.int (0 : Int) 0), (PySem.Value.int (0 : Int) 0), (PySem.Value.int (3 : Int) 0), (PySem.Value.ref 70), (PySem.Value.bool Bool.true), (PySem.Value.int (181 : Int) 0), (PySem.Value.ref 71), PySem.Value.none, (PySem.Value.ref 72), (PySem.Value.ref 73), (PySem.Value.ref 74), (PySem.Value.int (276 : Int) 0), (PySem.Value.int (20 : Int) 0), (PySem.Value.str (PySem.Str.ofString "/claim/cut.py") 277)]) #[])) ::
    (nat_lit 76, (PySem.Obj.mk (PySem.Value.type "function") (Option.none) (PySem.Data.func (PySem.FuncData.mk (PySem.Str.ofString "__init__") (PySem.Str.ofString "DuplicateSectionError.__init__") p4x0 (PySem.FuncBody.stmts b4x0) s4x0 3 ([] : List (Prod PySem.Str Nat)) (PySem.Value.ref 69) PySem.Value.none PySem.Value.none (PySem.Value.str (PySem.Str.ofString "cpy313.configparser") 187) (Option.none) (PySem.Value.ref 75) PySem.Value.none 0)) #[])) ::
    (nat_lit 77, (PySem.Obj.mk (PySem.Value.type "tuple") (Option.none) (PySem.Data.seq #[(PySem.Value.str (PySem.Str.ofString "args") 279), (PySem.Value.str (PySem.Str.ofString "lineno") 280), (PySem.Value.str (PySem.Str.ofString "section") 281), (PySem.Value.str (PySem.Str.ofString "source") 282)] 0) #[])) ::
    (nat_lit 78, (PySem.Obj.mk (PySem.Value.type "dict") (Option.none) (PySem.Data.dict #[(PySem.DictEntry.mk (PySem.PyData.keyHash P (PySem.Str.ofString "__module__")) (PySem.Value.str (PySem.Str.ofString "__module__") 262) (PySem.Value.str (PySem.Str.ofString "cpy313.configparser") 187)), (PySem.DictEntry.mk (PySem.PyData.keyHash P (PySem.Str.ofString "__firstlineno__")) (PySem.Value.str (PySem.Str.ofString "__firstlineno__") 266) (PySem.Value.int (18 : Int) 265)), (PySem.DictEntry.mk (PySem.PyData.keyHash P (PySem.Str.ofString "__init__")) (PySem.Value.str (PySem.Str.ofString "__init__") 278) (PySem.Value.ref 76)), (PySem.DictEntry.mk (PySem.PyData.keyHash P (PySem.Str.ofString "__static_attributes__")) (PySem.Value.str (PySem.Str.ofString "__static_attributes__") 283) (PySem.Value.ref 77)), (PySem.DictEntry.mk (PySem.PyData.keyHash P (PySem.Str.ofString "__doc__")) (PySem.Value.str (PySem.Str.ofString "__doc__") 284) PySem.Value.none)] 2) #[])) ::
    (nat_lit 79, (PySem.Obj.mk (PySem.Value.type "type") (Option.none) (PySem.Data.cls (PySem.ClassData.mk (PySem.Str.ofString "DuplicateSectionError") [(PySem.Value.ref 39)] [(PySem.Value.ref 79), (PySem.Value.ref 39), (PySem.Value.type "Exception"), (PySem.Value.type "BaseException"), (PySem.Value.type "object")] 78 (PySem.Str.ofString "DuplicateSectionError") Bool.true ([] : List PySem.Str) ([] : List PySem.Value) Bool.false (Option.none) Bool.false)) #[(Option.some (PySem.Value.ref 62)), (Option.none), (Option.some (PySem.Value.str (PySem.Str.ofString "DuplicateSectionError") 255)), (Option.some (PySem.Value.str (PySem.Str.ofString "DuplicateSectionError") 263)), (Option.some (PySem.Value.builtin "Exception.__new__")), (Option.some (PySem.Value.bool Bool.true))])) ::
    (nat_lit 82, (PySem.Obj.mk (PySem.Value.type "tuple") (Option.none) (PySem.Data.seq #[(PySem.Value.ref 39)] 0) #[])) ::
    (nat_lit 89, (PySem.Obj.mk (PySem.Value.type "tuple") (Option.none) (PySem.Data.seq #[PySem.Value.none, PySem.Value.none] 0) #[])) ::
    (nat_lit 90, (PySem.Obj.mk (PySem.Value.type "tuple") (Option.none) (PySem.Data.seq #[] 0) #[])) ::
    (nat_lit 92, (PySem.Obj.mk (PySem.Value.type "tuple") (Option.none) (PySem.Data.seq #[(PySem.Value.str (PySem.Str.ofString "self") 302), (PySem.Value.str (PySem.Str.ofString "section") 303), (PySem.Value.str (PySem.Str.ofString "option") 304), (PySem.Value.str (PySem.Str.ofString "source") 305), (PySem.Value.str (PySem.Str.ofString "lineno") 306), (PySem.Value.str (PySem.Str.ofString "msg") 307), (PySem.Value.str (PySem.Str.ofString "message") 308)] 0) #[])) ::
    (nat_lit 93, (PySem.Obj.mk (PySem.Value.type "tuple") (Option.none) (PySem.Data.seq #[] 0) #[])) ::
    (nat_lit 95, (PySem.Obj.mk (PySem.Value.type "code") (Option.none) (PySem.Data.fields #[(PySem.Value.str (PySem.Str.ofString "__init__") 299), (PySem.Value.str (PySem.Str.ofString "DuplicateOptionError.__init__") 300), (PySem.Value.str (PySem.Str.ofString "/claim/cut.py") 301), (PySem.Value.int (38 : Int) 0), (PySem.Value.int (5 : Int) 0), (PySem.Value.int (0 : Int) 0), (PySem.Value.int (0 : Int) 0), (PySem.Value.int (3 : Int) 0), (PySem.Value.ref 90), (PySem.Value.bool Bool.true), (PySem.Value.int (181 : Int) 0), (PySem.Value.ref 91), PySem.Value.none, (PySem.Value.ref 92), (PySem.Value.ref 93), (PySem.Value.ref 94), (PySem.Value.int (309 : Int) 0), (PySem.Value.int (38 : Int) 0), (PySem.Value.str (PySem.Str.ofString "/claim/cut.py") 310)]) #[])) ::
    (nat_lit 96, (PySem.Obj.mk (PySem.Value.type "function") (Option.none) (PySem.Data.func (PySem.FuncData.mk (PySem.Str.ofString "__init__") (PySem.Str.ofString "DuplicateOptionError.__init__") p5x0 (PySem.FuncBody.stmts b5x0) s5x0 3 ([] : List (Prod PySem.Str Nat)) (PySem.Value.ref 89) PySem.Value.none PySem.Value.none (PySem.Value.str (PySem.Str.ofString "cpy313.configparser") 187) (Option.none) (PySem.Value.ref 95) PySem.Value.none 0)) #[])) ::
    (nat_lit 97, (PySem.Obj.mk (PySem.Value.type "tuple") (Option.none) (PySem.Data.seq #[(PySem.Value.str (PySem.Str.ofString "args") 312), (PySem.Value.str (PySem.Str.ofString "lineno") 313), (PySem.Value.str (PySem.Str.ofString "option") 314), (PySem.Value.str (PySem.Str.ofString "section") 315), (PySem.Value.str (PySem.Str.ofString "source") 316)] 0) #[])) ::
    (nat_lit 98, (PySem.Obj.mk (PySem.Value.type "dict") (Option.none) (PySem.Data.dict #[(PySem.DictEntry.mk (PySem.PyData.keyHash P (PySem.Str.ofString "__module__")) (PySem.Value.str (PySem.Str.ofString "__module__") 294) (PySem.Value.str (PySem.Str.ofString "cpy313.configparser") 187)), (PySem.DictEntry.mk (PySem.PyData.keyHash P (PySem.Str.ofString "__firstlineno__")) (PySem.Value.str (PySem.Str.ofString "__firstlineno__") 298) (PySem.Value.int (36 : Int) 297)), (PySem.DictEntry.mk (PySem.PyData.keyHash P (PySem.Str.ofString "__init__")) (PySem.Value.str (PySem.Str.ofString "__init__") 311) (PySem.Value.ref 96)), (PySem.DictEntry.mk (PySem.PyData.keyHash P (PySem.Str.ofString "__static_attributes__")) (PySem.Value.str (PySem.Str.ofString "__static_attributes__") 317) (PySem.Value.ref 97)), (PySem.DictEntry.mk (PySem.PyData.keyHash P (PySem.Str.ofString "__doc__")) (PySem.Value.str (PySem.Str.ofString "__doc__") 318) PySem.Value.none)] 2) #[])) ::
    (nat_lit 99, (PySem.Obj.mk (PySem.Value.type "type") (Option.none) (PySem.Data.cls (PySem.ClassData.mk (PySem.Str.ofString "DuplicateOptionError") [(PySem.Value.ref 39)] [(PySem.Value.ref 99), (PySem.Value.ref 39), (PySem.Value.type "Exception"), (PySem.Value.type "BaseException"), (PySem.Value.type "object")] 98 (PySem.Str.ofString "DuplicateOptionError") Bool.true ([] : List PySem.Str) ([] : List PySem.Value) Bool.false (Option.none) Bool.false)) #[(Option.some (PySem.Value.ref 82)), (Option.none), (Option.some (PySem.Value.str (PySem.Str.ofString "DuplicateOptionError") 287)), (Option.some (PySem.Value.str (PySem.Str.ofString "DuplicateOptionError") 295)), (Option.some (PySem.Value.builtin "Exception.__new__")), (Option.some (PySem.Value.bool Bool.true))])) ::
    (nat_lit 102, (PySem.Obj.mk (PySem.Value.type "tuple") (Option.none) (PySem.Data.seq #[(PySem.Value.ref 39)] 0) #[])) ::
    (nat_lit 109, (PySem.Obj.mk (PySem.Value.type "tuple") (Option.none) (PySem.Data.seq #[] 0) #[])) ::
    (nat_lit 111, (PySem.Obj.mk (PySem.Value.type "tuple") (Option.none) (PySem.Data.seq #[(PySem.Value.str (PySem.Str.ofString "self") 336), (PySem.Value.str (PySem.Str.ofString "option") 337), (PySem.Value.str (PySem.Str.ofString "section") 338)] 0) #[])) ::
    (nat_lit 112, (PySem.Obj.mk (PySem.Value.type "tuple") (Option.none) (PySem.Data.seq #[] 0) #[])) ::
    (nat_lit 114, (PySem.Obj.mk (PySem.Value.type "code") (Option.none) (PySem.Data.fields #[(PySem.Value.str (PySem.Str.ofString "__init__") 333), (PySem.Value.str (PySem.Str.ofString "NoOptionError.__init__") 334), (PySem.Value.str (PySem.Str.ofString "/claim/cut.py") 335), (PySem.Value.int (57 : Int) 0), (PySem.Value.int (3 : Int) 0), (PySem.Value.int (0 : Int) 0), (PySem.Value.int (0 : Int) 0), (PySem.Value.int (3 : Int) 0), (PySem.Value.ref 109), (PySem.Value.bool Bool.true), (PySem.Value.int (181 : Int) 0), (PySem.Value.ref 110), PySem.Value.none, (PySem.Value.ref 111), (PySem.Value.ref 112), (PySem.Value.ref 113), (PySem.Value.int (339 : Int) 0), (PySem.Value.int (57 : Int) 0), (PySem.Value.str (PySem.Str.ofString "/claim/cut.py") 340)]) #[])) ::
    (nat_lit 115, (PySem.Obj.mk (PySem.Value.type "function") (Option.none) (PySem.Data.func (PySem.FuncData.mk (PySem.Str.ofString "__init__") (PySem.Str.ofString "NoOptionError.__init__") p6x0 (PySem.FuncBody.stmts b6x0) s6x0 3 ([] : List (Prod PySem.Str Nat)) PySem.Value.none PySem.Value.none PySem.Value.none (PySem.Value.str (PySem.Str.ofString "cpy313.configparser") 187) (Option.none) (PySem.Value.ref 114) PySem.Value.none 0)) #[])) ::
    (nat_lit 116, (PySem.Obj.mk (PySem.Value.type "tuple") (Option.none) (PySem.Data.seq #[(PySem.Value.str (PySem.Str.ofString "args") 342), (PySem.Value.str (PySem.Str.ofString "option") 343), (PySem.Value.str (PySem.Str.ofString "section") 344)] 0) #[])) ::
    (nat_lit 117, (PySem.Obj.mk (PySem.Value.type "dict") (Option.none) (PySem.Data.dict #[(PySem.DictEntry.mk (PySem.PyData.keyHash P (PySem.Str.ofString "__module__")) (PySem.Value.str (PySem.Str.ofString "__module__") 328) (PySem.Value.str (PySem.Str.ofString "cpy313.configparser") 187)), (PySem.DictEntry.mk (PySem.PyData.keyHash P (PySem.Str.ofString "__firstlineno__")) (PySem.Value.str (PySem.Str.ofString "__firstlineno__") 332) (PySem.Value.int (55 : Int) 331)), (PySem.DictEntry.mk (PySem.PyData.keyHash P (PySem.Str.ofString "__init__")) (PySem.Value.str (PySem.Str.ofString "__init__") 341) (PySem.Value.ref 115)), (PySem.DictEntry.mk (PySem.PyData.keyHash P (PySem.Str.ofString "__static_attributes__")) (PySem.Value.str (PySem.Str.ofString "__static_attributes__") 345) (PySem.Value.ref 116)), (PySem.DictEntry.mk (PySem.PyData.keyHash P (PySem.Str.ofString "__doc__")) (PySem.Value.str (PySem.Str.ofString "__doc__") 346) PySem.Value.none)] 2) #[])) ::
    (nat_lit 118, (PySem.Obj.mk (PySem.Value.type "type") (Option.none) (PySem.Data.cls (PySem.ClassData.mk (PySem.Str.ofString "NoOptionError") [(PySem.Value.ref 39)] [(PySem.Value.ref 118), (PySem.Value.ref 39), (PySem.Value.type "Exception"), (PySem.Value.type "BaseException"), (PySem.Value.type "object")] 117 (PySem.Str.ofString "NoOptionError") Bool.true ([] : List PySem.Str) ([] : List PySem.Value) Bool.false (Option.none) Bool.false)) #[(Option.some (PySem.Value.ref 102)), (Option.none), (Option.some (PySem.Value.str (PySem.Str.ofString "NoOptionError") 321)), (Option.some (PySem.Value.str (PySem.Str.ofString "NoOptionError") 329)), (Option.some (PySem.Value.builtin "Exception.__new__")), (Option.some (PySem.Value.bool Bool.true))])) ::
    (nat_lit 121, (PySem.Obj.mk (PySem.Value.type "tuple") (Option.none) (PySem.Data.seq #[(PySem.Value.ref 39)] 0) #[])) ::
    (nat_lit 128, (PySem.Obj.mk (PySem.Value.type "tuple") (Option.none) (PySem.Data.seq #[] 0) #[])) ::
    (nat_lit 130, (PySem.Obj.mk (PySem.Value.type "tuple") (Option.none) (PySem.Data.seq #[(PySem.Value.str (PySem.Str.ofString "self") 364), (PySem.Value.str (PySem.Str.ofString "option") 365), (PySem.Value.str (PySem.Str.ofString "section") 366), (PySem.Value.str (PySem.Str.ofString "msg") 367)] 0) #[])) ::
    (nat_lit 131, (PySem.Obj.mk (PySem.Value.type "tuple") (Option.none) (PySem.Data.seq #[] 0) #[])) ::
    (nat_lit 133, (PySem.Obj.mk (PySem.Value.type "code") (Option.none) (PySem.Data.fields #[(PySem.Value.str (PySem.Str.ofString "__init__") 361), (PySem.Value.str (PySem.Str.ofString "InterpolationError.__init__") 362), (PySem.Value.str (PySem.Str.ofString "/claim/cut.py") 363), (PySem.Value.int (64 : Int) 0), (PySem.Value.int (4 : Int) 0), (PySem.Value.int (0 : Int) 0), (PySem.Value.int (0 : Int) 0), (PySem.Value.int (3 : Int) 0), (PySem.Value.ref 128), (PySem.Value.bool Bool.true), (PySem.Value.int (181 : Int) 0), (PySem.Value.ref 129), PySem.Value.none, (PySem.Value.ref 130), (PySem.Value.ref 131), (PySem.Value.ref 132), (PySem.Value.int (368 : Int) 0), (PySem.Value.int (64 : Int) 0), (PySem.Value.str (PySem.Str.ofString "/claim/cut.py") 369)]) #[])) ::
    (nat_lit 134, (PySem.Obj.mk (PySem.Value.type "function") (Option.none) (PySem.Data.func (PySem.FuncData.mk (PySem.Str.ofString "__init__") (PySem.Str.ofString "InterpolationError.__init__") p7x0 (PySem.FuncBody.stmts b7x0) s7x0 3 ([] : List (Prod PySem.Str Nat)) PySem.Value.none PySem.Value.none PySem.Value.none (PySem.Value.str (PySem.Str.ofString "cpy313.configparser") 187) (Option.none) (PySem.Value.ref 133) PySem.Value.none 0)) #[])) ::
    (nat_lit 135, (PySem.Obj.mk (PySem.Value.type "tuple") (Option.none) (PySem.Data.seq #[(PySem.Value.str (PySem.Str.ofString "args") 371), (PySem.Value.str (PySem.Str.ofString "option") 372), (PySem.Value.str (PySem.Str.ofString "section") 373)] 0) #[])) ::
    (nat_lit 136, (PySem.Obj.mk (PySem.Value.type "dict") (Option.none) (PySem.Data.dict #[(PySem.DictEntry.mk (PySem.PyData.keyHash P (PySem.Str.ofString "__module__")) (PySem.Value.str (PySem.Str.ofString "__module__") 356) (PySem.Value.str (PySem.Str.ofString "cpy313.configparser") 187)), (PySem.DictEntry.mk (PySem.PyData.keyHash P (PySem.Str.ofString "__firstlineno__")) (PySem.Value.str (PySem.Str.ofString "__firstlineno__") 360) (PySem.Value.int (62 : Int) 359)), (PySem.DictEntry.mk (PySem.PyData.keyHash P (PySem.Str.ofString "__init__")) (PySem.Value.str (PySem.Str.ofString "__init__") 370) (PySem.Value.ref 134)), (PySem.DictEntry.mk (PySem.PyData.keyHash P (PySem.Str.ofString "__static_attributes__")) (PySem.Value.str (PySem.Str.ofString "__static_attributes__") 374) (PySem.Value.ref 135)), (PySem.DictEntry.mk (PySem.PyData.keyHash P (PySem.Str.ofString "__doc__")) (PySem.Value.str (PySem.Str.ofString "__doc__") 375) PySem.Value.none)] 2) #[])) ::
    (nat_lit 137, (PySem.Obj.mk (PySem.Value.type "type") (Option.none) (PySem.Data.cls (PySem.ClassData.mk (PySem.Str.ofString "InterpolationError") [(PySem.Value.ref 39)] [(PySem.Value.ref 137), (PySem.Value.ref 39), (PySem.Value.type "Exception"), (PySem.Value.type "BaseException"), (PySem.Value.type "object")] 136 (PySem.Str.ofString "InterpolationError") Bool.true ([] : List PySem.Str) [(PySem.Value.ref 156), (PySem.Value.ref 168), (PySem.Value.ref 187)] Bool.false (Option.none) Bool.false)) #[(Option.some (PySem.Value.ref 121)), (Option.none), (Option.some (PySem.Value.str (PySem.Str.ofString "InterpolationError") 349)), (Option.some (PySem.Value.str (PySem.Str.ofString "InterpolationError") 357)), (Option.some (PySem.Value.builtin "Exception.__new__")), (Option.some (PySem.Value.bool Bool.true))])) ::
    (nat_lit 140, (PySem.Obj.mk (PySem.Value.type "tuple") (Option.none) (PySem.Data.seq #[(PySem.Value.ref 137)] 0) #[])) ::
    (nat_lit 147, (PySem.Obj.mk (PySem.Value.type "tuple") (Option.none) (PySem.Data.seq #[] 0) #[])) ::
    (nat_lit 149, (PySem.Obj.mk (PySem.Value.type "tuple") (Option.none) (PySem.Data.seq #[(PySem.Value.str (PySem.Str.ofString "self") 393), (PySem.Value.str (PySem.Str.ofString "option") 394), (PySem.Value.str (PySem.Str.ofString "section") 395), (PySem.Value.str (PySem.Str.ofString "rawval") 396), (PySem.Value.str (PySem.Str.ofString "reference") 397), (PySem.Value.str (PySem.Str.ofString "msg") 398)] 0) #[])) ::
    (nat_lit 150, (PySem.Obj.mk (PySem.Value.type "tuple") (Option.none) (PySem.Data.seq #[] 0) #[])) ::
    (nat_lit 152, (PySem.Obj.mk (PySem.Value.type "code") (Option.none) (PySem.Data.fields #[(PySem.Value.str (PySem.Str.ofString "__init__") 390), (PySem.Value.str (PySem.Str.ofString "InterpolationMissingOptionError.__init__") 391), (PySem.Value.str (PySem.Str.ofString "/claim/cut.py") 392), (PySem.Value.int (71 : Int) 0), (PySem.Value.int (5 : Int) 0), (PySem.Value.int (0 : Int) 0), (PySem.Value.int (0 : Int) 0), (PySem.Value.int (3 : Int) 0), (PySem.Value.ref 147), (PySem.Value.bool Bool.true), (PySem.Value.int (181 : Int) 0), (PySem.Value.ref 148), PySem.Value.none, (PySem.Value.ref 149), (PySem.Value.ref 150), (PySem.Value.ref 151), (PySem.Value.int (399 : Int) 0), (PySem.Value.int (71 : Int) 0), (PySem.Value.str (PySem.Str.ofString "/claim/cut.py") 400)]) #[])) ::
    (nat_lit 153, (PySem.Obj.mk (PySem.Value.type "function") (Option.none) (PySem.Data.func (PySem.FuncData.mk (PySem.Str.ofString "__init__") (PySem.Str.ofString "InterpolationMissingOptionError.__init__") p8x0 (PySem.FuncBody.stmts b8x0) s8x0 3 ([] : List (Prod PySem.Str Nat)) PySem.Value.none PySem.Value.none PySem.Value.none (PySem.Value.str (PySem.Str.ofString "cpy313.configparser") 187) (Option.none) (PySem.Value.ref 152) PySem.Value.none 0)) #[])) ::
    (nat_lit 154, (PySem.Obj.mk (PySem.Value.type "tuple") (Option.none) (PySem.Data.seq #[(PySem.Value.str (PySem.Str.ofString "args") 402), (PySem.Value.str (PySem.Str.ofString "reference") 403)] 0) #[])) ::
    (nat_lit 155, (PySem.Obj.mk (PySem.Value.type "dict") (Option.none) (PySem.Data.dict #[(PySem.DictEntry.mk (PySem.PyData.keyHash P (PySem.Str.ofString "__module__")) (PySem.Value.str (PySem.Str.ofString "__module__") 385) (PySem.Value.str (PySem.Str.ofString "cpy313.configparser") 187)), (PySem.DictEntry.mk (PySem.PyData.keyHash P (PySem.Str.ofString "__firstlineno__")) (PySem.Value.str (PySem.Str.ofString "__firstlineno__") 389) (PySem.Value.int (69 : Int) 388)), (PySem.DictEntry.mk (PySem.PyData.keyHash P (PySem.Str.ofString "__init__")) (PySem.Value.str (PySem.Str.ofString "__init__") 401) (PySem.Value.ref 153)), (PySem.DictEntry.mk (PySem.PyData.keyHash P (PySem.Str.ofString "__static_attributes__")) (PySem.Value.str (PySem.Str.ofString "__static_attributes__") 404) (PySem.Value.ref 154)), (PySem.DictEntry.mk (PySem.PyData.keyHash P (PySem.Str.ofString "__doc__")) (PySem.Value.str (PySem.Str.ofString "__doc__") 405) PySem.Value.none)] 2) #[])) ::
    (nat_lit 156, (PySem.Obj.mk (PySem.Value.type "type") (Option.none) (PySem.Data.cls (PySem.ClassData.mk (PySem.Str.ofString "InterpolationMissingOptionError") [(PySem.Value.ref 137)] [(PySem.Value.ref 156), (PySem.Value.ref 137), (PySem.Value.ref 39), (PySem.Value.type "Exception"), (PySem.Value.type "BaseException"), (PySem.Value.type "object")] 155 (PySem.Str.ofString "InterpolationMissingOptionError") Bool.true ([] : List PySem.Str) ([] : List PySem.Value) Bool.false (Option.none) Bool.false)) #[(Option.some (PySem.Value.ref 140)), (Option.none), (Option.some (PySem.Value.str (PySem.Str.ofString "InterpolationMissingOptionError") 378)), (Option.some (PySem.Value.str (PySem.Str.ofString "InterpolationMissingOptionError") 386)), (Option.some (PySem.Value.builtin "Exception.__new__")), (Option.some (PySem.Value.bool Bool.true))])) ::
    (nat_lit 159, (PySem.Obj.mk (PySem.Value.type "tuple") (Option.none) (PySem.Data.seq #[(PySem.Value.ref 137)] 0) #[])) ::
    (nat_lit 166, (PySem.Obj.mk (PySem.Value.type "tuple") (Option.none) (PySem.Data.seq #[] 0) #[])) ::
    (nat_lit 167, (PySem.Obj.mk (PySem.Value.type "dict") (Option.none) (PySem.Data.dict #[(PySem.DictEntry.mk (PySem.PyData.keyHash P (PySem.Str.ofString "__module__")) (PySem.Value.str (PySem.Str.ofString "__module__") 415) (PySem.Value.str (PySem.Str.ofString "cpy313.configparser") 187)), (PySem.DictEntry.mk (PySem.PyData.keyHash P (PySem.Str.ofString "__firstlineno__")) (PySem.Value.str (PySem.Str.ofString "__firstlineno__") 419) (PySem.Value.int (76 : Int) 418)), (PySem.DictEntry.mk (PySem.PyData.keyHash P (PySem.Str.ofString "__static_attributes__")) (PySem.Value.str (PySem.Str.ofString "__static_attributes__") 420) (PySem.Value.ref 166)), (PySem.DictEntry.mk (PySem.PyData.keyHash P (PySem.Str.ofString "__doc__")) (PySem.Value.str (PySem.Str.ofString "__doc__") 421) PySem.Value.none)] 2) #[])) ::
    (nat_lit 168, (PySem.Obj.mk (PySem.Value.type "type") (Option.none) (PySem.Data.cls (PySem.ClassData.mk (PySem.Str.ofString "InterpolationSyntaxError") [(PySem.Value.ref 137)] [(PySem.Value.ref 168), (PySem.Value.ref 137), (PySem.Value.ref 39), (PySem.Value.type "Exception"), (PySem.Value.type "BaseException"), (PySem.Value.type "object")] 167 (PySem.Str.ofString "InterpolationSyntaxError") Bool.true ([] : List PySem.Str) ([] : List PySem.Value) Bool.false (Option.none) Bool.false)) #[(Option.some (PySem.Value.ref 159)), (Option.none), (Option.some (PySem.Value.str (PySem.Str.ofString "InterpolationSyntaxError") 408)), (Option.some (PySem.Value.str (PySem.Str.ofString "InterpolationSyntaxError") 416)), (Option.some (PySem.Value.builtin "Exception.__new__")), (Option.some (PySem.Value.bool Bool.true))])) ::
    (nat_lit 171, (PySem.Obj.mk (PySem.Value.type "tuple") (Option.none) (PySem.Data.seq #[(PySem.Value.ref 137)] 0) #[])) ::
    (nat_lit 178, (PySem.Obj.mk (PySem.Value.type "tuple") (Option.none) (PySem.Data.seq #[] 0) #[])) ::
    (nat_lit 180, (PySem.Obj.mk (PySem.Value.type "tuple") (Option.none) (PySem.Data.seq #[(PySem.Value.str (PySem.Str.ofString "self") 439), (PySem.Value.str (PySem.Str.ofString "option") 440), (PySem.Value.str (PySem.Str.ofString "section") 441), (PySem.Value.str (PySem.Str.ofString "rawval") 442), (PySem.Value.str (PySem.Str.ofString "msg") 443)] 0) #[])) ::
    (nat_lit 181, (PySem.Obj.mk (PySem.Value.type "tuple") (Option.none) (PySem.Data.seq #[] 0) #[])) ::
    (nat_lit 183, (PySem.Obj.mk (PySem.Value.type "code") (Option.none) (PySem.Data.fields #[(PySem.Value.str (PySem.Str.ofString "__init__") 436), (PySem.Value.str (PySem.Str.ofString "InterpolationDepthError.__init__") 437), (PySem.Value.str (PySem.Str.ofString "/claim/cut.py") 438), (PySem.Value.int (80 : Int) 0), (PySem.Value.int (4 : Int) 0), (PySem.Value.int (0 : Int) 0), (PySem.Value.int (0 : Int) 0), (PySem.Value.int (3 : Int) 0), (PySem.Value.ref 178), (PySem.Value.bool Bool.true), (PySem.Value.int (181 : Int) 0), (PySem.Value.ref 179), PySem.Value.none, (PySem.Value.ref 180), (PySem.Value.ref 181), (PySem.Value.ref 182), (PySem.Value.int (444 : Int) 0), (PySem.Value.int (80 : Int) 0), (PySem.Value.str (PySem.Str.ofString "/claim/cut.py") 445)]) #[])) ::
    (nat_lit 184, (PySem.Obj.mk (PySem.Value.type "function") (Option.none) (PySem.Data.func (PySem.FuncData.mk (PySem.Str.ofString "__init__") (PySem.Str.ofString "InterpolationDepthError.__init__") p10x0 (PySem.FuncBody.stmts b10x0) s10x0 3 ([] : List (Prod PySem.Str Nat)) PySem.Value.none PySem.Value.none PySem.Value.none (PySem.Value.str (PySem.Str.ofString "cpy313.configparser") 187) (Option.none) (PySem.Value.ref 183) PySem.Value.none 0)) #[])) ::
    (nat_lit 185, (PySem.Obj.mk (PySem.Value.type "tuple") (Option.none) (PySem.Data.seq #[(PySem.Value.str (PySem.Str.ofString "args") 447)] 0) #[])) ::
    (nat_lit 186, (PySem.Obj.mk (PySem.Value.type "dict") (Option.none) (PySem.Data.dict #[(PySem.DictEntry.mk (PySem.PyData.keyHash P (PySem.Str.ofString "__module__")) (PySem.Value.str (PySem.Str.ofString "__module__") 431) (PySem.Value.str (PySem.Str.ofString "cpy313.configparser") 187)), (PySem.DictEntry.mk (PySem.PyData.keyHash P (PySem.Str.ofString "__firstlineno__")) (PySem.Value.str (PySem.Str.ofString "__firstlineno__") 435) (PySem.Value.int (78 : Int) 434)), (PySem.DictEntry.mk (PySem.PyData.keyHash P (PySem.Str.ofString "__init__")) (PySem.Value.str (PySem.Str.ofString "__init__") 446) (PySem.Value.ref 184)), (PySem.DictEntry.mk (PySem.PyData.keyHash P (PySem.Str.ofString "__static_attributes__")) (PySem.Value.str (PySem.Str.ofString "__static_attributes__") 448) (PySem.Value.ref 185)), (PySem.DictEntry.mk (PySem.PyData.keyHash P (PySem.Str.ofString "__doc__")) (PySem.Value.str (PySem.Str.ofString "__doc__") 449) PySem.Value.none)] 2) #[])) ::
    (nat_lit 187, (PySem.Obj.mk (PySem.Value.type "type") (Option.none) (PySem.Data.cls (PySem.ClassData.mk (PySem.Str.ofString "InterpolationDepthError") [(PySem.Value.ref 137)] [(PySem.Value.ref 187), (PySem.Value.ref 137), (PySem.Value.ref 39), (PySem.Value.type "Exception"), (PySem.Value.type "BaseException"), (PySem.Value.type "object")] 186 (PySem.Str.ofString "InterpolationDepthError") Bool.true ([] : List PySem.Str) ([] : List PySem.Value) Bool.false (Option.none) Bool.false)) #[(Option.some (PySem.Value.ref 171)), (Option.none), (Option.some (PySem.Value.str (PySem.Str.ofString "InterpolationDepthError") 424)), (Option.some (PySem.Value.str (PySem.Str.ofString "InterpolationDepthError") 432)), (Option.some (PySem.Value.builtin "Exception.__new__")), (Option.some (PySem.Value.bool Bool.true))])) ::
    (nat_lit 190, (PySem.Obj.mk (PySem.Value.type "tuple") (Option.none) (PySem.Data.seq #[] 0) #[])) ::
    (nat_lit 192, (PySem.Obj.mk (PySem.Value.type "tuple") (Option.none) (PySem.Data.seq #[(PySem.Value.str (PySem.Str.ofString "kind") 457)] 0) #[])) ::
    (nat_lit 193, (PySem.Obj.mk (PySem.Value.type "tuple") (Option.none) (PySem.Data.seq #[] 0) #[])) ::
    (nat_lit 195, (PySem.Obj.mk (PySem.Value.type "code") (Option.none) (PySem.Data.fields #[(PySem.Value.str (PySem.Str.ofString "_law_error") 454), (PySem.Value.str (PySem.Str.ofString "_law_error") 455), (PySem.Value.str (PySem.Str.ofString "/claim/cut.py") 456), (PySem.Value.int (85 : Int) 0), (PySem.Value.int (1 : Int) 0), (PySem.Value.int (0 : Int) 0), (PySem.Value.int (0 : Int) 0), (PySem.Value.int (3 : Int) 0), (PySem.Value.ref 190), (PySem.Value.bool Bool.true), (PySem.Value.int (181 : Int) 0), (PySem.Value.ref 191), PySem.Value.none, (PySem.Value.ref 192), (PySem.Value.ref 193), (PySem.Value.ref 194), (PySem.Value.int (458 : Int) 0), (PySem.Value.int (85 : Int) 0), (PySem.Value.str (PySem.Str.ofString "/claim/cut.py") 459)]) #[])) ::
    (nat_lit 196, (PySem.Obj.mk (PySem.Value.type "function") (Option.none) (PySem.Data.func (PySem.FuncData.mk (PySem.Str.ofString "_law_error") (PySem.Str.ofString "_law_error") p12 (PySem.FuncBody.stmts b12) s12 3 ([] : List (Prod PySem.Str Nat)) PySem.Value.none PySem.Value.none PySem.Value.none (PySem.Value.str (PySem.Str.ofString "law_dv0002_02") 452) (Option.none) (PySem.Value.ref 195) PySem.Value.none 0)) #[])) ::
    (nat_lit 197, (PySem.Obj.mk (PySem.Value.type "tuple") (Option.none) (PySem.Data.seq #[] 0) #[])) ::
    (nat_lit 199, (PySem.Obj.mk (PySem.Value.type "tuple") (Option.none) (PySem.Data.seq #[(PySem.Value.str (PySem.Str.ofString "caught") 464), (PySem.Value.str (PySem.Str.ofString "guard") 465), (PySem.Value.str (PySem.Str.ofString "told") 466)] 0) #[])) ::
    (nat_lit 200, (PySem.Obj.mk (PySem.Value.type "tuple") (Option.none) (PySem.Data.seq #[] 0) #[])) ::
    (nat_lit 202, (PySem.Obj.mk (PySem.Value.type "code") (Option.none) (PySem.Data.fields #[(PySem.Value.str (PySem.Str.ofString "_law_on") 461), (PySem.Value.str (PySem.Str.ofString "_law_on") 462), (PySem.Value.str (PySem.Str.ofString "/claim/cut.py") 463), (PySem.Value.int (103 : Int) 0), (PySem.Value.int (3 : Int) 0), (PySem.Value.int (0 : Int) 0), (PySem.Value.int (0 : Int) 0), (PySem.Value.int (3 : Int) 0), (PySem.Value.ref 197), (PySem.Value.bool Bool.true), (PySem.Value.int (181 : Int) 0), (PySem.Value.ref 198), PySem.Value.none, (PySem.Value.ref 199), (PySem.Value.ref 200), (PySem.Value.ref 201), (PySem.Value.int (467 : Int) 0), (PySem.Value.int (103 : Int) 0), (PySem.Value.str (PySem.Str.ofString "/claim/cut.py") 468)]) #[])) ::
    (nat_lit 203, (PySem.Obj.mk (PySem.Value.type "function") (Option.none) (PySem.Data.func (PySem.FuncData.mk (PySem.Str.ofString "_law_on") (PySem.Str.ofString "_law_on") p13 (PySem.FuncBody.stmts b13) s13 3 ([] : List (Prod PySem.Str Nat)) PySem.Value.none PySem.Value.none PySem.Value.none (PySem.Value.str (PySem.Str.ofString "law_dv0002_02") 452) (Option.none) (PySem.Value.ref 202) PySem.Value.none 0)) #[])) ::
    (nat_lit 204, (PySem.Obj.mk (PySem.Value.type "tuple") (Option.none) (PySem.Data.seq #[] 0) #[])) ::
    (nat_lit 206, (PySem.Obj.mk (PySem.Value.type "tuple") (Option.none) (PySem.Data.seq #[(PySem.Value.str (PySem.Str.ofString "guards") 473), (PySem.Value.str (PySem.Str.ofString "kind") 474), (PySem.Value.str (PySem.Str.ofString "told") 475), (PySem.Value.str (PySem.Str.ofString "guard") 476), (PySem.Value.str (PySem.Str.ofString "inner") 477), (PySem.Value.str (PySem.Str.ofString "caught") 478)] 0) #[])) ::
    (nat_lit 207, (PySem.Obj.mk (PySem.Value.type "tuple") (Option.none) (PySem.Data.seq #[] 0) #[])) ::
    (nat_lit 209, (PySem.Obj.mk (PySem.Value.type "code") (Option.none) (PySem.Data.fields #[(PySem.Value.str (PySem.Str.ofString "_law_through") 470), (PySem.Value.str (PySem.Str.ofString "_law_through") 471), (PySem.Value.str (PySem.Str.ofString "/claim/cut.py") 472), (PySem.Value.int (106 : Int) 0), (PySem.Value.int (3 : Int) 0), (PySem.Value.int (0 : Int) 0), (PySem.Value.int (0 : Int) 0), (PySem.Value.int (3 : Int) 0), (PySem.Value.ref 204), (PySem.Value.bool Bool.true), (PySem.Value.int (181 : Int) 0), (PySem.Value.ref 205), PySem.Value.none, (PySem.Value.ref 206), (PySem.Value.ref 207), (PySem.Value.ref 208), (PySem.Value.int (479 : Int) 0), (PySem.Value.int (106 : Int) 0), (PySem.Value.str (PySem.Str.ofString "/claim/cut.py") 480)]) #[])) ::
    (nat_lit 210, (PySem.Obj.mk (PySem.Value.type "function") (Option.none) (PySem.Data.func (PySem.FuncData.mk (PySem.Str.ofString "_law_through") (PySem.Str.ofString "_law_through") p14 (PySem.FuncBody.stmts b14) s14 3 ([] : List (Prod PySem.Str Nat)) PySem.Value.none PySem.Value.none PySem.Value.none (PySem.Value.str (PySem.Str.ofString "law_dv0002_02") 452) (Option.none) (PySem.Value.ref 209) PySem.Value.none 0)) #[])) ::
    (nat_lit 211, (PySem.Obj.mk (PySem.Value.type "tuple") (Option.none) (PySem.Data.seq #[] 0) #[])) ::
    (nat_lit 213, (PySem.Obj.mk (PySem.Value.type "tuple") (Option.none) (PySem.Data.seq #[(PySem.Value.str (PySem.Str.ofString "key") 485)] 0) #[])) ::
    (nat_lit 214, (PySem.Obj.mk (PySem.Value.type "tuple") (Option.none) (PySem.Data.seq #[] 0) #[])) ::
    (nat_lit 216, (PySem.Obj.mk (PySem.Value.type "code") (Option.none) (PySem.Data.fields #[(PySem.Value.str (PySem.Str.ofString "_law_words") 482), (PySem.Value.str (PySem.Str.ofString "_law_words") 483), (PySem.Value.str (PySem.Str.ofString "/claim/cut.py") 484), (PySem.Value.int (176 : Int) 0), (PySem.Value.int (0 : Int) 0), (PySem.Value.int (0 : Int) 0), (PySem.Value.int (0 : Int) 0), (PySem.Value.int (3 : Int) 0), (PySem.Value.ref 211), (PySem.Value.bool Bool.true), (PySem.Value.int (181 : Int) 0), (PySem.Value.ref 212), PySem.Value.none, (PySem.Value.ref 213), (PySem.Value.ref 214), (PySem.Value.ref 215), (PySem.Value.int (486 : Int) 0), (PySem.Value.int (176 : Int) 0), (PySem.Value.str (PySem.Str.ofString "/claim/cut.py") 487)]) #[])) ::
    (nat_lit 217, (PySem.Obj.mk (PySem.Value.type "function") (Option.none) (PySem.Data.func (PySem.FuncData.mk (PySem.Str.ofString "_law_words") (PySem.Str.ofString "_law_words") p15 (PySem.FuncBody.stmts b15) s15 3 ([] : List (Prod PySem.Str Nat)) PySem.Value.none PySem.Value.none PySem.Value.none (PySem.Value.str (PySem.Str.ofString "law_dv0002_02") 452) (Option.none) (PySem.Value.ref 216) PySem.Value.none 0)) #[])) ::
    (nat_lit 218, (PySem.Obj.mk (PySem.Value.type "tuple") (Option.none) (PySem.Data.seq #[] 0) #[])) ::
    (nat_lit 220, (PySem.Obj.mk (PySem.Value.type "tuple") (Option.none) (PySem.Data.seq #[(PySem.Value.str (PySem.Str.ofString "guards") 492), (PySem.Value.str (PySem.Str.ofString "kind") 493), (PySem.Value.str (PySem.Str.ofString "words") 494), (PySem.Value.str (PySem.Str.ofString "behind") 495), (PySem.Value.str (PySem.Str.ofString "due") 496), (PySem.Value.str (PySem.Str.ofString "guard") 497), (PySem.Value.str (PySem.Str.ofString "kin") 498)] 0) #[])) ::
    (nat_lit 221, (PySem.Obj.mk (PySem.Value.type "tuple") (Option.none) (PySem.Data.seq #[] 0) #[])) ::
    (nat_lit 223, (PySem.Obj.mk (PySem.Value.type "code") (Option.none) (PySem.Data.fields #[(PySem.Value.str (PySem.Str.ofString "_law_due") 489), (PySem.Value.str (PySem.Str.ofString "_law_due") 490), (PySem.Value.str (PySem.Str.ofString "/claim/cut.py") 491), (PySem.Value.int (179 : Int) 0), (PySem.Value.int (3 : Int) 0), (PySem.Value.int (0 : Int) 0), (PySem.Value.int (0 : Int) 0), (PySem.Value.int (3 : Int) 0), (PySem.Value.ref 218), (PySem.Value.bool Bool.true), (PySem.Value.int (181 : Int) 0), (PySem.Value.ref 219), PySem.Value.none, (PySem.Value.ref 220), (PySem.Value.ref 221), (PySem.Value.ref 222), (PySem.Value.int (499 : Int) 0), (PySem.Value.int (179 : Int) 0), (PySem.Value.str (PySem.Str.ofString "/claim/cut.py") 500)]) #[])) ::
    (nat_lit 224, (PySem.Obj.mk (PySem.Value.type "function") (Option.none) (PySem.Data.func (PySem.FuncData.mk (PySem.Str.ofString "_law_due") (PySem.Str.ofString "_law_due") p16 (PySem.FuncBody.stmts b16) s16 3 ([] : List (Prod PySem.Str Nat)) PySem.Value.none PySem.Value.none PySem.Value.none (PySem.Value.str (PySem.Str.ofString "law_dv0002_02") 452) (Option.none) (PySem.Value.ref 223) PySem.Value.none 0)) #[])) ::
    (nat_lit 225, (PySem.Obj.mk (PySem.Value.type "tuple") (Option.none) (PySem.Data.seq #[] 0) #[])) ::
    (nat_lit 228, (PySem.Obj.mk (PySem.Value.type "code") (Option.none) (PySem.Data.fields #[(PySem.Value.str (PySem.Str.ofString "law") 502), (PySem.Value.str (PySem.Str.ofString "law") 503), (PySem.Value.str (PySem.Str.ofString "/claim/cut.py") 504), (PySem.Value.int (188 : Int) 0), (PySem.Value.int (1 : Int) 0), (PySem.Value.int (0 : Int) 0), (PySem.Value.int (0 : Int) 0), (PySem.Value.int (3 : Int) 0), (PySem.Value.ref 225), (PySem.Value.bool Bool.true), (PySem.Value.int (181 : Int) 0), (PySem.Value.ref 226), PySem.Value.none, PySem.Value.none, PySem.Value.none, (PySem.Value.ref 227), (PySem.Value.int (505 : Int) 0), (PySem.Value.int (188 : Int) 0), (PySem.Value.str (PySem.Str.ofString "/claim/cut.py") 506)]) #[])) ::
    (nat_lit 229, (PySem.Obj.mk (PySem.Value.type "function") (Option.none) (PySem.Data.func (PySem.FuncData.mk (PySem.Str.ofString "law") (PySem.Str.ofString "law") p17 (PySem.FuncBody.stmts b17) s17 3 ([] : List (Prod PySem.Str Nat)) PySem.Value.none PySem.Value.none PySem.Value.none (PySem.Value.str (PySem.Str.ofString "law_dv0002_02") 452) (Option.none) (PySem.Value.ref 228) PySem.Value.none 0)) #[])) :: [] : PySem.W.Frag)) _ _ _ _ _ _ _ _ _ _ _ _ _ _ _ _ _ _ _ _ _ _ _ _ _ _ _ _ _ _ _ _ _ _ _ _ _ _ _ _ _ _ _ _ _ (by conv => lhs; whnf) (by conv => lhs; whnf) (by conv => lhs; whnf) (by conv => lhs; whnf) (by conv => lhs; whnf) (by conv => lhs; whnf) (by conv => lhs; whnf) (by conv => lhs; whnf) (by conv => lhs; whnf) (by conv => lhs; whnf) (by conv => lhs; whnf) (by conv => lhs; whnf) (by conv => lhs; whnf) (by conv => lhs; whnf) (by conv => lhs; whnf) (by conv => lhs; whnf) (by conv => lhs; whnf) (by conv => lhs; whnf) (by conv => lhs; whnf) (by conv => lhs; whnf) (by conv => lhs; whnf) (by conv => lhs; whnf) (by conv => lhs; whnf) (by conv => lhs; whnf) (by conv => lhs; whnf) (by conv => lhs; whnf) (by conv => lhs; whnf) (by conv => lhs; whnf) (by conv => lhs; whnf) (by conv => lhs; whnf) (by conv => lhs; whnf) (by conv => lhs; whnf) (by conv => lhs; whnf) (by conv => lhs; whnf) (by conv => lhs; whnf) (by conv => lhs; whnf) (by conv => lhs; whnf) (by conv => lhs; whnf) (by conv => lhs; whnf) (by conv => lhs; whnf) (by conv => lhs; whnf) (by conv => lhs; whnf) (by conv => lhs; whnf) (by conv => lhs; whnf) (by conv => lhs; whnf)
noncomputable abbrev hd.env_41 : PySem.Env := (PySem.Env.mk (PySem.Module.scope (PySem.Program.main pE)) PySem.mainNs PySem.mainNs ([] : List (Prod PySem.Str PySem.Addr)) PySem.Str.empty (Option.none) (PySem.Value.ref 13) (Option.some (14 : PySem.Addr)) (0 : PySem.Addr))
noncomputable abbrev hd.o_43 : PySem.Params → PySem.Obj := (fun (P : PySem.Params) => (PySem.Obj.mk (PySem.Value.type "tuple") (Option.none) (PySem.Data.seq #[] 0) #[]))
noncomputable abbrev hd.o_44 : PySem.Params → PySem.Obj := (fun (P : PySem.Params) => (PySem.Obj.mk PySem.Value.none (Option.none) (PySem.Data.fields #[]) #[]))
noncomputable abbrev hd.o_45 : PySem.Params → PySem.Obj := (fun (P : PySem.Params) => (PySem.Obj.mk (PySem.Value.type "code") (Option.none) (PySem.Data.fields #[(PySem.Value.str (PySem.Str.ofString "<module>") 182), (PySem.Value.str (PySem.Str.ofString "<module>") 183), (PySem.Value.str (PySem.Str.ofString "/claim/cut.py") 184), (PySem.Value.int (1 : Int) 0), (PySem.Value.int (0 : Int) 0), (PySem.Value.int (0 : Int) 0), (PySem.Value.int (0 : Int) 0), (PySem.Value.int (0 : Int) 0), (PySem.Value.ref 11), (PySem.Value.bool Bool.false), (PySem.Value.int (181 : Int) 0), (PySem.Value.ref 12), PySem.Value.none, PySem.Value.none, PySem.Value.none, PySem.Value.none, (PySem.Value.int (185 : Int) 0), (PySem.Value.int (1 : Int) 0), (PySem.Value.str (PySem.Str.ofString "/claim/cut.py") 186)]) #[]))
noncomputable abbrev hd.o_46 : PySem.Params → PySem.Obj := (fun (P : PySem.Params) => (PySem.Obj.mk (PySem.Value.type "frame") (Option.none) PySem.Data.plain #[(Option.some (PySem.Value.ref 13)), (Option.some (PySem.Value.ref 3)), (Option.some (PySem.Value.ref 3)), (Option.none), (Option.some (PySem.Value.str (PySem.Str.ofString "__main__") 164)), (Option.none), (Option.some (PySem.Value.ref 0))]))
noncomputable abbrev hd.o_49 : PySem.Params → PySem.Obj := (fun (P : PySem.Params) => (PySem.Obj.mk PySem.Value.none (Option.none) (PySem.Data.dict #[(PySem.DictEntry.mk (PySem.PyData.keyHash P (PySem.Str.ofString "type.__subclasses__.Exception.0")) (PySem.Value.str (PySem.Str.ofString "type.__subclasses__.Exception.0") 225) (PySem.Value.int (39 : Int) 0)), (PySem.DictEntry.mk (PySem.PyData.keyHash P (PySem.Str.ofString "type.__subclasses__.Exception.n")) (PySem.Value.str (PySem.Str.ofString "type.__subclasses__.Exception.n") 226) (PySem.Value.int (1 : Int) 0))] 2) #[]))
noncomputable abbrev hd.o_50 : PySem.Params → PySem.Obj := (fun (P : PySem.Params) => (PySem.Obj.mk (PySem.Value.type "dict") (Option.none) (PySem.Data.dict #[(PySem.DictEntry.mk (PySem.PyData.keyHash P (PySem.Str.ofString "__name__")) (PySem.Value.str (PySem.Str.ofString "__name__") 165) (PySem.Value.str (PySem.Str.ofString "cpy313.configparser") 187)), (PySem.DictEntry.mk (PySem.PyData.keyHash P (PySem.Str.ofString "__doc__")) (PySem.Value.str (PySem.Str.ofString "__doc__") 166) PySem.Value.none), (PySem.DictEntry.mk (PySem.PyData.keyHash P (PySem.Str.ofString "__package__")) (PySem.Value.str (PySem.Str.ofString "__package__") 167) PySem.Value.none), (PySem.DictEntry.mk (PySem.PyData.keyHash P (PySem.Str.ofString "__loader__")) (PySem.Value.str (PySem.Str.ofString "__loader__") 168) (PySem.Value.builtin "__main__.__loader__#opaque")), (PySem.DictEntry.mk (PySem.PyData.keyHash P (PySem.Str.ofString "__spec__")) (PySem.Value.str (PySem.Str.ofString "__spec__") 169) PySem.Value.none), (PySem.DictEntry.mk (PySem.PyData.keyHash P (PySem.Str.ofString "__annotations__")) (PySem.Value.str (PySem.Str.ofString "__annotations__") 170) (PySem.Value.ref 6)), (PySem.DictEntry.mk (PySem.PyData.keyHash P (PySem.Str.ofString "__builtins__")) (PySem.Value.str (PySem.Str.ofString "__builtins__") 171) (PySem.Value.ref 4)), (PySem.DictEntry.mk (PySem.PyData.keyHash P (PySem.Str.ofString "__file__")) (PySem.Value.str (PySem.Str.ofString "__file__") 173) (PySem.Value.str (PySem.Str.ofString "/claim/cut.py") 172)), (PySem.DictEntry.mk (PySem.PyData.keyHash P (PySem.Str.ofString "__cached__")) (PySem.Value.str (PySem.Str.ofString "__cached__") 174) PySem.Value.none), (PySem.DictEntry.mk (PySem.PyData.keyHash P (PySem.Str.ofString "MAX_INTERPOLATION_DEPTH")) (PySem.Value.str (PySem.Str.ofString "MAX_INTERPOLATION_DEPTH") 190) (PySem.Value.int (10 : Int) 189)), (PySem.DictEntry.mk (PySem.PyData.keyHash P (PySem.Str.ofString "Error")) (PySem.Value.str (PySem.Str.ofString "Error") 228) (PySem.Value.ref 39))] 11) #[]))
noncomputable abbrev hd.o_51 : PySem.Params → PySem.Obj := (fun (P : PySem.Params) => (PySem.Obj.mk PySem.Value.none (Option.none) (PySem.Data.fields #[(PySem.Value.int (3 : Int) 0), (PySem.Value.int (0 : Int) 0), (PySem.Value.ref 20)]) #[]))
noncomputable abbrev hd.o_52 : PySem.Params → PySem.Obj := (fun (P : PySem.Params) => (PySem.Obj.mk (PySem.Value.type "tuple") (Option.none) (PySem.Data.seq #[(PySem.Value.type "Exception")] 0) #[]))
noncomputable abbrev hd.o_53 : PySem.Params → PySem.Obj := (fun (P : PySem.Params) => (PySem.Obj.mk (PySem.Value.type "builtin_function_or_method") (Option.none) (PySem.Data.fields #[(PySem.Value.builtin "type.__prepare__"), (PySem.Value.type "type")]) #[]))
noncomputable abbrev hd.o_54 : PySem.Params → PySem.Obj := (fun (P : PySem.Params) => (PySem.Obj.mk (PySem.Value.type "dict") (Option.none) (PySem.Data.dict #[(PySem.DictEntry.mk (PySem.PyData.keyHash P (PySem.Str.ofString "__module__")) (PySem.Value.str (PySem.Str.ofString "__module__") 198) (PySem.Value.str (PySem.Str.ofString "cpy313.configparser") 187)), (PySem.DictEntry.mk (PySem.PyData.keyHash P (PySem.Str.ofString "__qualname__")) (PySem.Value.str (PySem.Str.ofString "__qualname__") 200) (PySem.Value.str (PySem.Str.ofString "Error") 199)), (PySem.DictEntry.mk (PySem.PyData.keyHash P (PySem.Str.ofString "__firstlineno__")) (PySem.Value.str (PySem.Str.ofString "__firstlineno__") 202) (PySem.Value.int (3 : Int) 201)), (PySem.DictEntry.mk (PySem.PyData.keyHash P (PySem.Str.ofString "__init__")) (PySem.Value.str (PySem.Str.ofString "__init__") 211) (PySem.Value.ref 29)), (PySem.DictEntry.mk (PySem.PyData.keyHash P (PySem.Str.ofString "__repr__")) (PySem.Value.str (PySem.Str.ofString "__repr__") 218) (PySem.Value.ref 36)), (PySem.DictEntry.mk (PySem.PyData.keyHash P (PySem.Str.ofString "__str__")) (PySem.Value.str (PySem.Str.ofString "__str__") 219) (PySem.Value.ref 36)), (PySem.DictEntry.mk (PySem.PyData.keyHash P (PySem.Str.ofString "__static_attributes__")) (PySem.Value.str (PySem.Str.ofString "__static_attributes__") 221) (PySem.Value.ref 37))] 7) #[]))
noncomputable abbrev hd.o_55 : PySem.Params → PySem.Obj := (fun (P : PySem.Params) => (PySem.Obj.mk (PySem.Value.type "tuple") (Option.none) (PySem.Data.seq #[] 0) #[]))
noncomputable abbrev hd.o_56 : PySem.Params → PySem.Obj := (fun (P : PySem.Params) => (PySem.Obj.mk PySem.Value.none (Option.none) (PySem.Data.fields #[(PySem.Value.int (5 : Int) 0), (PySem.Value.int (4 : Int) 0), (PySem.Value.ref 28), (PySem.Value.int (9 : Int) 0), (PySem.Value.int (4 : Int) 0), (PySem.Value.ref 35)]) #[]))
noncomputable abbrev hd.o_57 : PySem.Params → PySem.Obj := (fun (P : PySem.Params) => (PySem.Obj.mk (PySem.Value.type "code") (Option.none) (PySem.Data.fields #[(PySem.Value.str (PySem.Str.ofString "Error") 193), (PySem.Value.str (PySem.Str.ofString "Error") 194), (PySem.Value.str (PySem.Str.ofString "/claim/cut.py") 195), (PySem.Value.int (3 : Int) 0), (PySem.Value.int (0 : Int) 0), (PySem.Value.int (0 : Int) 0), (PySem.Value.int (0 : Int) 0), (PySem.Value.int (0 : Int) 0), (PySem.Value.ref 18), (PySem.Value.bool Bool.false), (PySem.Value.int (181 : Int) 0), (PySem.Value.ref 19), PySem.Value.none, PySem.Value.none, PySem.Value.none, PySem.Value.none, (PySem.Value.int (196 : Int) 0), (PySem.Value.int (3 : Int) 0), (PySem.Value.str (PySem.Str.ofString "/claim/cut.py") 197)]) #[]))
noncomputable abbrev hd.o_58 : PySem.Params → PySem.Obj := (fun (P : PySem.Params) => (PySem.Obj.mk (PySem.Value.type "frame") (Option.none) PySem.Data.plain #[(Option.some (PySem.Value.ref 20)), (Option.some (PySem.Value.ref 3)), (Option.some (PySem.Value.ref 17)), (Option.none), (Option.some (PySem.Value.str (PySem.Str.ofString "cpy313.configparser") 187)), (Option.none), (Option.some (PySem.Value.ref 0))]))
noncomputable abbrev hd.o_59 : PySem.Params → PySem.Obj := (fun (P : PySem.Params) => (PySem.Obj.mk (PySem.Value.type "tuple") (Option.none) (PySem.Data.seq #[(PySem.Value.str (PySem.Str.ofString "") 203)] 0) #[]))
noncomputable abbrev hd.o_60 : PySem.Params → PySem.Obj := (fun (P : PySem.Params) => (PySem.Obj.mk (PySem.Value.type "tuple") (Option.none) (PySem.Data.seq #[] 0) #[]))
noncomputable abbrev hd.o_61 : PySem.Params → PySem.Obj := (fun (P : PySem.Params) => (PySem.Obj.mk PySem.Value.none (Option.none) (PySem.Data.fields #[]) #[]))
noncomputable abbrev hd.o_62 : PySem.Params → PySem.Obj := (fun (P : PySem.Params) => (PySem.Obj.mk (PySem.Value.type "tuple") (Option.none) (PySem.Data.seq #[(PySem.Value.str (PySem.Str.ofString "self") 207), (PySem.Value.str (PySem.Str.ofString "msg") 208)] 0) #[]))
noncomputable abbrev hd.o_63 : PySem.Params → PySem.Obj := (fun (P : PySem.Params) => (PySem.Obj.mk (PySem.Value.type "tuple") (Option.none) (PySem.Data.seq #[] 0) #[]))
noncomputable abbrev hd.o_64 : PySem.Params → PySem.Obj := (fun (P : PySem.Params) => (PySem.Obj.mk PySem.Value.none (Option.none) (PySem.Data.func (PySem.FuncData.mk (PySem.Str.ofString "__init__") (PySem.Str.ofString "Error.__init__") (fP (sIn 2 0)) (PySem.FuncBody.stmts (fB (sIn 2 0))) (fS (sIn 2 0)) 0 ([] : List (Prod PySem.Str Nat)) PySem.Value.none PySem.Value.none PySem.Value.none PySem.Value.none (Option.none) PySem.Value.none PySem.Value.none 0)) #[]))
noncomputable abbrev hd.o_65 : PySem.Params → PySem.Obj := (fun (P : PySem.Params) => (PySem.Obj.mk (PySem.Value.type "code") (Option.none) (PySem.Data.fields #[(PySem.Value.str (PySem.Str.ofString "__init__") 204), (PySem.Value.str (PySem.Str.ofString "Error.__init__") 205), (PySem.Value.str (PySem.Str.ofString "/claim/cut.py") 206), (PySem.Value.int (5 : Int) 0), (PySem.Value.int (2 : Int) 0), (PySem.Value.int (0 : Int) 0), (PySem.Value.int (0 : Int) 0), (PySem.Value.int (3 : Int) 0), (PySem.Value.ref 23), (PySem.Value.bool Bool.true), (PySem.Value.int (181 : Int) 0), (PySem.Value.ref 24), PySem.Value.none, (PySem.Value.ref 25), (PySem.Value.ref 26), (PySem.Value.ref 27), (PySem.Value.int (209 : Int) 0), (PySem.Value.int (5 : Int) 0), (PySem.Value.str (PySem.Str.ofString "/claim/cut.py") 210)]) #[]))
noncomputable abbrev hd.o_66 : PySem.Params → PySem.Obj := (fun (P : PySem.Params) => (PySem.Obj.mk (PySem.Value.type "function") (Option.none) (PySem.Data.func (PySem.FuncData.mk (PySem.Str.ofString "__init__") (PySem.Str.ofString "Error.__init__") (fP (sIn 2 0)) (PySem.FuncBody.stmts (fB (sIn 2 0))) (fS (sIn 2 0)) 3 ([] : List (Prod PySem.Str Nat)) (PySem.Value.ref 22) PySem.Value.none PySem.Value.none (PySem.Value.str (PySem.Str.ofString "cpy313.configparser") 187) (Option.none) (PySem.Value.ref 28) PySem.Value.none 0)) #[]))
noncomputable abbrev hd.o_67 : PySem.Params → PySem.Obj := (fun (P : PySem.Params) => (PySem.Obj.mk (PySem.Value.type "tuple") (Option.none) (PySem.Data.seq #[] 0) #[]))
noncomputable abbrev hd.o_68 : PySem.Params → PySem.Obj := (fun (P : PySem.Params) => (PySem.Obj.mk PySem.Value.none (Option.none) (PySem.Data.fields #[]) #[]))
noncomputable abbrev hd.o_69 : PySem.Params → PySem.Obj := (fun (P : PySem.Params) => (PySem.Obj.mk (PySem.Value.type "tuple") (Option.none) (PySem.Data.seq #[(PySem.Value.str (PySem.Str.ofString "self") 215)] 0) #[]))
noncomputable abbrev hd.o_70 : PySem.Params → PySem.Obj := (fun (P : PySem.Params) => (PySem.Obj.mk (PySem.Value.type "tuple") (Option.none) (PySem.Data.seq #[] 0) #[]))
noncomputable abbrev hd.o_71 : PySem.Params → PySem.Obj := (fun (P : PySem.Params) => (PySem.Obj.mk PySem.Value.none (Option.none) (PySem.Data.func (PySem.FuncData.mk (PySem.Str.ofString "__repr__") (PySem.Str.ofString "Error.__repr__") (fP (sIn 2 1)) (PySem.FuncBody.stmts (fB (sIn 2 1))) (fS (sIn 2 1)) 0 ([] : List (Prod PySem.Str Nat)) PySem.Value.none PySem.Value.none PySem.Value.none PySem.Value.none (Option.none) PySem.Value.none PySem.Value.none 0)) #[]))
noncomputable abbrev hd.o_72 : PySem.Params → PySem.Obj := (fun (P : PySem.Params) => (PySem.Obj.mk (PySem.Value.type "code") (Option.none) (PySem.Data.fields #[(PySem.Value.str (PySem.Str.ofString "__repr__") 212), (PySem.Value.str (PySem.Str.ofString "Error.__repr__") 213), (PySem.Value.str (PySem.Str.ofString "/claim/cut.py") 214), (PySem.Value.int (9 : Int) 0), (PySem.Value.int (1 : Int) 0), (PySem.Value.int (0 : Int) 0), (PySem.Value.int (0 : Int) 0), (PySem.Value.int (3 : Int) 0), (PySem.Value.ref 30), (PySem.Value.bool Bool.true), (PySem.Value.int (181 : Int) 0), (PySem.Value.ref 31), PySem.Value.none, (PySem.Value.ref 32), (PySem.Value.ref 33), (PySem.Value.ref 34), (PySem.Value.int (216 : Int) 0), (PySem.Value.int (9 : Int) 0), (PySem.Value.str (PySem.Str.ofString "/claim/cut.py") 217)]) #[]))
noncomputable abbrev hd.o_73 : PySem.Params → PySem.Obj := (fun (P : PySem.Params) => (PySem.Obj.mk (PySem.Value.type "function") (Option.none) (PySem.Data.func (PySem.FuncData.mk (PySem.Str.ofString "__repr__") (PySem.Str.ofString "Error.__repr__") (fP (sIn 2 1)) (PySem.FuncBody.stmts (fB (sIn 2 1))) (fS (sIn 2 1)) 3 ([] : List (Prod PySem.Str Nat)) PySem.Value.none PySem.Value.none PySem.Value.none (PySem.Value.str (PySem.Str.ofString "cpy313.configparser") 187) (Option.none) (PySem.Value.ref 35) PySem.Value.none 0)) #[]))
noncomputable abbrev hd.o_74 : PySem.Params → PySem.Obj := (fun (P : PySem.Params) => (PySem.Obj.mk (PySem.Value.type "tuple") (Option.none) (PySem.Data.seq #[(PySem.Value.str (PySem.Str.ofString "message") 220)] 0) #[]))
noncomputable abbrev hd.o_75 : PySem.Params → PySem.Obj := (fun (P : PySem.Params) => (PySem.Obj.mk (PySem.Value.type "dict") (Option.none) (PySem.Data.dict #[(PySem.DictEntry.mk (PySem.PyData.keyHash P (PySem.Str.ofString "__module__")) (PySem.Value.str (PySem.Str.ofString "__module__") 198) (PySem.Value.str (PySem.Str.ofString "cpy313.configparser") 187)), (PySem.DictEntry.mk (PySem.PyData.keyHash P (PySem.Str.ofString "__firstlineno__")) (PySem.Value.str (PySem.Str.ofString "__firstlineno__") 202) (PySem.Value.int (3 : Int) 201)), (PySem.DictEntry.mk (PySem.PyData.keyHash P (PySem.Str.ofString "__init__")) (PySem.Value.str (PySem.Str.ofString "__init__") 211) (PySem.Value.ref 29)), (PySem.DictEntry.mk (PySem.PyData.keyHash P (PySem.Str.ofString "__repr__")) (PySem.Value.str (PySem.Str.ofString "__repr__") 218) (PySem.Value.ref 36)), (PySem.DictEntry.mk (PySem.PyData.keyHash P (PySem.Str.ofString "__str__")) (PySem.Value.str (PySem.Str.ofString "__str__") 219) (PySem.Value.ref 36)), (PySem.DictEntry.mk (PySem.PyData.keyHash P (PySem.Str.ofString "__static_attributes__")) (PySem.Value.str (PySem.Str.ofString "__static_attributes__") 221) (PySem.Value.ref 37)), (PySem.DictEntry.mk (PySem.PyData.keyHash P (PySem.Str.ofString "__weakref__")) (PySem.Value.str (PySem.Str.ofString "__weakref__") 223) (PySem.Value.ref 40)), (PySem.DictEntry.mk (PySem.PyData.keyHash P (PySem.Str.ofString "__doc__")) (PySem.Value.str (PySem.Str.ofString "__doc__") 224) PySem.Value.none)] 3) #[]))
noncomputable abbrev hd.o_76 : PySem.Params → PySem.Obj := (fun (P : PySem.Params) => (PySem.Obj.mk (PySem.Value.type "type") (Option.none) (PySem.Data.cls (PySem.ClassData.mk (PySem.Str.ofString "Error") [(PySem.Value.type "Exception")] [(PySem.Value.ref 39), (PySem.Value.type "Exception"), (PySem.Value.type "BaseException"), (PySem.Value.type "object")] 38 (PySem.Str.ofString "Error") Bool.true ([] : List PySem.Str) ([] : List PySem.Value) Bool.false (Option.none) Bool.false)) #[(Option.some (PySem.Value.ref 15)), (Option.none), (Option.some (PySem.Value.str (PySem.Str.ofString "Error") 191)), (Option.some (PySem.Value.str (PySem.Str.ofString "Error") 199)), (Option.some (PySem.Value.builtin "Exception.__new__")), (Option.some (PySem.Value.bool Bool.true))]))
noncomputable abbrev hd.o_77 : PySem.Params → PySem.Obj := (fun (P : PySem.Params) => (PySem.Obj.mk (PySem.Value.type "getset_descriptor") (Option.none) (PySem.Data.fields #[(PySem.Value.str (PySem.Str.ofString "__weakref__") 222), (PySem.Value.ref 39), (PySem.Value.builtin "ExceptionGroup.__weakref__"), PySem.Value.none]) #[]))
noncomputable abbrev hd.o_78 : PySem.Params → PySem.Obj := (fun (P : PySem.Params) => (PySem.Obj.mk (PySem.Value.type "super") (Option.none) (PySem.Data.fields #[(PySem.Value.ref 39), (PySem.Value.ref 39), (PySem.Value.ref 39)]) #[]))
noncomputable abbrev hd.o_79 : PySem.Params → PySem.Obj := (fun (P : PySem.Params) => (PySem.Obj.mk (PySem.Value.type "builtin_function_or_method") (Option.none) (PySem.Data.fields #[(PySem.Value.builtin "object.__init_subclass__"), (PySem.Value.ref 39)]) #[]))
noncomputable abbrev hd.o_80 : PySem.Params → PySem.Obj := (fun (P : PySem.Params) => (PySem.Obj.mk (PySem.Value.type "dict") (Option.none) (PySem.Data.dict #[(PySem.DictEntry.mk (PySem.PyData.keyHash P (PySem.Str.ofString "__name__")) (PySem.Value.str (PySem.Str.ofString "__name__") 165) (PySem.Value.str (PySem.Str.ofString "cpy313.configparser") 187)), (PySem.DictEntry.mk (PySem.PyData.keyHash P (PySem.Str.ofString "__doc__")) (PySem.Value.str (PySem.Str.ofString "__doc__") 166) PySem.Value.none), (PySem.DictEntry.mk (PySem.PyData.keyHash P (PySem.Str.ofString "__package__")) (PySem.Value.str (PySem.Str.ofString "__package__") 167) PySem.Value.none), (PySem.DictEntry.mk (PySem.PyData.keyHash P (PySem.Str.ofString "__loader__")) (PySem.Value.str (PySem.Str.ofString "__loader__") 168) (PySem.Value.builtin "__main__.__loader__#opaque")), (PySem.DictEntry.mk (PySem.PyData.keyHash P (PySem.Str.ofString "__spec__")) (PySem.Value.str (PySem.Str.ofString "__spec__") 169) PySem.Value.none), (PySem.DictEntry.mk (PySem.PyData.keyHash P (PySem.Str.ofString "__annotations__")) (PySem.Value.str (PySem.Str.ofString "__annotations__") 170) (PySem.Value.ref 6)), (PySem.DictEntry.mk (PySem.PyData.keyHash P (PySem.Str.ofString "__builtins__")) (PySem.Value.str (PySem.Str.ofString "__builtins__") 171) (PySem.Value.ref 4)), (PySem.DictEntry.mk (PySem.PyData.keyHash P (PySem.Str.ofString "__file__")) (PySem.Value.str (PySem.Str.ofString "__file__") 173) (PySem.Value.str (PySem.Str.ofString "/claim/cut.py") 172)), (PySem.DictEntry.mk (PySem.PyData.keyHash P (PySem.Str.ofString "__cached__")) (PySem.Value.str (PySem.Str.ofString "__cached__") 174) PySem.Value.none), (PySem.DictEntry.mk (PySem.PyData.keyHash P (PySem.Str.ofString "MAX_INTERPOLATION_DEPTH")) (PySem.Value.str (PySem.Str.ofString "MAX_INTERPOLATION_DEPTH") 190) (PySem.Value.int (10 : Int) 189)), (PySem.DictEntry.mk (PySem.PyData.keyHash P (PySem.Str.ofString "Error")) (PySem.Value.str (PySem.Str.ofString "Error") 228) (PySem.Value.ref 39)), (PySem.DictEntry.mk (PySem.PyData.keyHash P (PySem.Str.ofString "NoSectionError")) (PySem.Value.str (PySem.Str.ofString "NoSectionError") 254) (PySem.Value.ref 59))] 12) #[]))
noncomputable abbrev hd.o_81 : PySem.Params → PySem.Obj := (fun (P : PySem.Params) => (PySem.Obj.mk PySem.Value.none (Option.none) (PySem.Data.fields #[(PySem.Value.int (3 : Int) 0), (PySem.Value.int (0 : Int) 0), (PySem.Value.ref 20), (PySem.Value.int (12 : Int) 0), (PySem.Value.int (0 : Int) 0), (PySem.Value.ref 48)]) #[]))
noncomputable abbrev hd.o_82 : PySem.Params → PySem.Obj := (fun (P : PySem.Params) => (PySem.Obj.mk (PySem.Value.type "type") (Option.none) (PySem.Data.cls (PySem.ClassData.mk (PySem.Str.ofString "Error") [(PySem.Value.type "Exception")] [(PySem.Value.ref 39), (PySem.Value.type "Exception"), (PySem.Value.type "BaseException"), (PySem.Value.type "object")] 38 (PySem.Str.ofString "Error") Bool.true ([] : List PySem.Str) [(PySem.Value.ref 59)] Bool.false (Option.none) Bool.false)) #[(Option.some (PySem.Value.ref 15)), (Option.none), (Option.some (PySem.Value.str (PySem.Str.ofString "Error") 191)), (Option.some (PySem.Value.str (PySem.Str.ofString "Error") 199)), (Option.some (PySem.Value.builtin "Exception.__new__")), (Option.some (PySem.Value.bool Bool.true))]))
noncomputable abbrev hd.o_83 : PySem.Params → PySem.Obj := (fun (P : PySem.Params) => (PySem.Obj.mk (PySem.Value.type "tuple") (Option.none) (PySem.Data.seq #[(PySem.Value.ref 39)] 0) #[]))
noncomputable abbrev hd.o_84 : PySem.Params → PySem.Obj := (fun (P : PySem.Params) => (PySem.Obj.mk (PySem.Value.type "builtin_function_or_method") (Option.none) (PySem.Data.fields #[(PySem.Value.builtin "type.__prepare__"), (PySem.Value.type "type")]) #[]))
noncomputable abbrev hd.o_85 : PySem.Params → PySem.Obj := (fun (P : PySem.Params) => (PySem.Obj.mk (PySem.Value.type "dict") (Option.none) (PySem.Data.dict #[(PySem.DictEntry.mk (PySem.PyData.keyHash P (PySem.Str.ofString "__module__")) (PySem.Value.str (PySem.Str.ofString "__module__") 236) (PySem.Value.str (PySem.Str.ofString "cpy313.configparser") 187)), (PySem.DictEntry.mk (PySem.PyData.keyHash P (PySem.Str.ofString "__qualname__")) (PySem.Value.str (PySem.Str.ofString "__qualname__") 238) (PySem.Value.str (PySem.Str.ofString "NoSectionError") 237)), (PySem.DictEntry.mk (PySem.PyData.keyHash P (PySem.Str.ofString "__firstlineno__")) (PySem.Value.str (PySem.Str.ofString "__firstlineno__") 240) (PySem.Value.int (12 : Int) 239)), (PySem.DictEntry.mk (PySem.PyData.keyHash P (PySem.Str.ofString "__init__")) (PySem.Value.str (PySem.Str.ofString "__init__") 248) (PySem.Value.ref 56)), (PySem.DictEntry.mk (PySem.PyData.keyHash P (PySem.Str.ofString "__static_attributes__")) (PySem.Value.str (PySem.Str.ofString "__static_attributes__") 251) (PySem.Value.ref 57))] 5) #[]))
noncomputable abbrev hd.o_86 : PySem.Params → PySem.Obj := (fun (P : PySem.Params) => (PySem.Obj.mk (PySem.Value.type "tuple") (Option.none) (PySem.Data.seq #[] 0) #[]))
noncomputable abbrev hd.o_87 : PySem.Params → PySem.Obj := (fun (P : PySem.Params) => (PySem.Obj.mk PySem.Value.none (Option.none) (PySem.Data.fields #[(PySem.Value.int (14 : Int) 0), (PySem.Value.int (4 : Int) 0), (PySem.Value.ref 55)]) #[]))
noncomputable abbrev hd.o_88 : PySem.Params → PySem.Obj := (fun (P : PySem.Params) => (PySem.Obj.mk (PySem.Value.type "code") (Option.none) (PySem.Data.fields #[(PySem.Value.str (PySem.Str.ofString "NoSectionError") 231), (PySem.Value.str (PySem.Str.ofString "NoSectionError") 232), (PySem.Value.str (PySem.Str.ofString "/claim/cut.py") 233), (PySem.Value.int (12 : Int) 0), (PySem.Value.int (0 : Int) 0), (PySem.Value.int (0 : Int) 0), (PySem.Value.int (0 : Int) 0), (PySem.Value.int (0 : Int) 0), (PySem.Value.ref 46), (PySem.Value.bool Bool.false), (PySem.Value.int (181 : Int) 0), (PySem.Value.ref 47), PySem.Value.none, PySem.Value.none, PySem.Value.none, PySem.Value.none, (PySem.Value.int (234 : Int) 0), (PySem.Value.int (12 : Int) 0), (PySem.Value.str (PySem.Str.ofString "/claim/cut.py") 235)]) #[]))
noncomputable abbrev hd.o_89 : PySem.Params → PySem.Obj := (fun (P : PySem.Params) => (PySem.Obj.mk (PySem.Value.type "frame") (Option.none) PySem.Data.plain #[(Option.some (PySem.Value.ref 48)), (Option.some (PySem.Value.ref 3)), (Option.some (PySem.Value.ref 45)), (Option.none), (Option.some (PySem.Value.str (PySem.Str.ofString "cpy313.configparser") 187)), (Option.none), (Option.some (PySem.Value.ref 0))]))
noncomputable abbrev hd.o_90 : PySem.Params → PySem.Obj := (fun (P : PySem.Params) => (PySem.Obj.mk (PySem.Value.type "tuple") (Option.none) (PySem.Data.seq #[] 0) #[]))
noncomputable abbrev hd.o_91 : PySem.Params → PySem.Obj := (fun (P : PySem.Params) => (PySem.Obj.mk PySem.Value.none (Option.none) (PySem.Data.fields #[]) #[]))
noncomputable abbrev hd.o_92 : PySem.Params → PySem.Obj := (fun (P : PySem.Params) => (PySem.Obj.mk (PySem.Value.type "tuple") (Option.none) (PySem.Data.seq #[(PySem.Value.str (PySem.Str.ofString "self") 244), (PySem.Value.str (PySem.Str.ofString "section") 245)] 0) #[]))
noncomputable abbrev hd.o_93 : PySem.Params → PySem.Obj := (fun (P : PySem.Params) => (PySem.Obj.mk (PySem.Value.type "tuple") (Option.none) (PySem.Data.seq #[] 0) #[]))
noncomputable abbrev hd.o_94 : PySem.Params → PySem.Obj := (fun (P : PySem.Params) => (PySem.Obj.mk PySem.Value.none (Option.none) (PySem.Data.func (PySem.FuncData.mk (PySem.Str.ofString "__init__") (PySem.Str.ofString "NoSectionError.__init__") (fP (sIn 3 0)) (PySem.FuncBody.stmts (fB (sIn 3 0))) (fS (sIn 3 0)) 0 ([] : List (Prod PySem.Str Nat)) PySem.Value.none PySem.Value.none PySem.Value.none PySem.Value.none (Option.none) PySem.Value.none PySem.Value.none 0)) #[]))
noncomputable abbrev hd.o_95 : PySem.Params → PySem.Obj := (fun (P : PySem.Params) => (PySem.Obj.mk (PySem.Value.type "code") (Option.none) (PySem.Data.fields #[(PySem.Value.str (PySem.Str.ofString "__init__") 241), (PySem.Value.str (PySem.Str.ofString "NoSectionError.__init__") 242), (PySem.Value.str (PySem.Str.ofString "/claim/cut.py") 243), (PySem.Value.int (14 : Int) 0), (PySem.Value.int (2 : Int) 0), (PySem.Value.int (0 : Int) 0), (PySem.Value.int (0 : Int) 0), (PySem.Value.int (3 : Int) 0), (PySem.Value.ref 50), (PySem.Value.bool Bool.true), (PySem.Value.int (181 : Int) 0), (PySem.Value.ref 51), PySem.Value.none, (PySem.Value.ref 52), (PySem.Value.ref 53), (PySem.Value.ref 54), (PySem.Value.int (246 : Int) 0), (PySem.Value.int (14 : Int) 0), (PySem.Value.str (PySem.Str.ofString "/claim/cut.py") 247)]) #[]))
noncomputable abbrev hd.o_96 : PySem.Params → PySem.Obj := (fun (P : PySem.Params) => (PySem.Obj.mk (PySem.Value.type "function") (Option.none) (PySem.Data.func (PySem.FuncData.mk (PySem.Str.ofString "__init__") (PySem.Str.ofString "NoSectionError.__init__") (fP (sIn 3 0)) (PySem.FuncBody.stmts (fB (sIn 3 0))) (fS (sIn 3 0)) 3 ([] : List (Prod PySem.Str Nat)) PySem.Value.none PySem.Value.none PySem.Value.none (PySem.Value.str (PySem.Str.ofString "cpy313.configparser") 187) (Option.none) (PySem.Value.ref 55) PySem.Value.none 0)) #[]))
noncomputable abbrev hd.o_97 : PySem.Params → PySem.Obj := (fun (P : PySem.Params) => (PySem.Obj.mk (PySem.Value.type "tuple") (Option.none) (PySem.Data.seq #[(PySem.Value.str (PySem.Str.ofString "args") 249), (PySem.Value.str (PySem.Str.ofString "section") 250)] 0) #[]))
noncomputable abbrev hd.o_98 : PySem.Params → PySem.Obj := (fun (P : PySem.Params) => (PySem.Obj.mk (PySem.Value.type "dict") (Option.none) (PySem.Data.dict #[(PySem.DictEntry.mk (PySem.PyData.keyHash P (PySem.Str.ofString "__module__")) (PySem.Value.str (PySem.Str.ofString "__module__") 236) (PySem.Value.str (PySem.Str.ofString "cpy313.configparser") 187)), (PySem.DictEntry.mk (PySem.PyData.keyHash P (PySem.Str.ofString "__firstlineno__")) (PySem.Value.str (PySem.Str.ofString "__firstlineno__") 240) (PySem.Value.int (12 : Int) 239)), (PySem.DictEntry.mk (PySem.PyData.keyHash P (PySem.Str.ofString "__init__")) (PySem.Value.str (PySem.Str.ofString "__init__") 248) (PySem.Value.ref 56)), (PySem.DictEntry.mk (PySem.PyData.keyHash P (PySem.Str.ofString "__static_attributes__")) (PySem.Value.str (PySem.Str.ofString "__static_attributes__") 251) (PySem.Value.ref 57)), (PySem.DictEntry.mk (PySem.PyData.keyHash P (PySem.Str.ofString "__doc__")) (PySem.Value.str (PySem.Str.ofString "__doc__") 252) PySem.Value.none)] 2) #[]))
noncomputable abbrev hd.o_99 : PySem.Params → PySem.Obj := (fun (P : PySem.Params) => (PySem.Obj.mk (PySem.Value.type "type") (Option.none) (PySem.Data.cls (PySem.ClassData.mk (PySem.Str.ofString "NoSectionError") [(PySem.Value.ref 39)] [(PySem.Value.ref 59), (PySem.Value.ref 39), (PySem.Value.type "Exception"), (PySem.Value.type "BaseException"), (PySem.Value.type "object")] 58 (PySem.Str.ofString "NoSectionError") Bool.true ([] : List PySem.Str) ([] : List PySem.Value) Bool.false (Option.none) Bool.false)) #[(Option.some (PySem.Value.ref 43)), (Option.none), (Option.some (PySem.Value.str (PySem.Str.ofString "NoSectionError") 229)), (Option.some (PySem.Value.str (PySem.Str.ofString "NoSectionError") 237)), (Option.some (PySem.Value.builtin "Exception.__new__")), (Option.some (PySem.Value.bool Bool.true))]))
noncomputable abbrev hd.o_100 : PySem.Params → PySem.Obj := (fun (P : PySem.Params) => (PySem.Obj.mk (PySem.Value.type "super") (Option.none) (PySem.Data.fields #[(PySem.Value.ref 59), (PySem.Value.ref 59), (PySem.Value.ref 59)]) #[]))
noncomputable abbrev hd.o_101 : PySem.Params → PySem.Obj := (fun (P : PySem.Params) => (PySem.Obj.mk (PySem.Value.type "builtin_function_or_method") (Option.none) (PySem.Data.fields #[(PySem.Value.builtin "object.__init_subclass__"), (PySem.Value.ref 59)]) #[]))
noncomputable abbrev hd.o_102 : PySem.Params → PySem.Obj := (fun (P : PySem.Params) => (PySem.Obj.mk (PySem.Value.type "dict") (Option.none) (PySem.Data.dict #[(PySem.DictEntry.mk (PySem.PyData.keyHash P (PySem.Str.ofString "__name__")) (PySem.Value.str (PySem.Str.ofString "__name__") 165) (PySem.Value.str (PySem.Str.ofString "cpy313.configparser") 187)), (PySem.DictEntry.mk (PySem.PyData.keyHash P (PySem.Str.ofString "__doc__")) (PySem.Value.str (PySem.Str.ofString "__doc__") 166) PySem.Value.none), (PySem.DictEntry.mk (PySem.PyData.keyHash P (PySem.Str.ofString "__package__")) (PySem.Value.str (PySem.Str.ofString "__package__") 167) PySem.Value.none), (PySem.DictEntry.mk (PySem.PyData.keyHash P (PySem.Str.ofString "__loader__")) (PySem.Value.str (PySem.Str.ofString "__loader__") 168) (PySem.Value.builtin "__main__.__loader__#opaque")), (PySem.DictEntry.mk (PySem.PyData.keyHash P (PySem.Str.ofString "__spec__")) (PySem.Value.str (PySem.Str.ofString "__spec__") 169) PySem.Value.none), (PySem.DictEntry.mk (PySem.PyData.keyHash P (PySem.Str.ofString "__annotations__")) (PySem.Value.str (PySem.Str.ofString "__annotations__") 170) (PySem.Value.ref 6)), (PySem.DictEntry.mk (PySem.PyData.keyHash P (PySem.Str.ofString "__builtins__")) (PySem.Value.str (PySem.Str.ofString "__builtins__") 171) (PySem.Value.ref 4)), (PySem.DictEntry.mk (PySem.PyData.keyHash P (PySem.Str.ofString "__file__")) (PySem.Value.str (PySem.Str.ofString "__file__") 173) (PySem.Value.str (PySem.Str.ofString "/claim/cut.py") 172)), (PySem.DictEntry.mk (PySem.PyData.keyHash P (PySem.Str.ofString "__cached__")) (PySem.Value.str (PySem.Str.ofString "__cached__") 174) PySem.Value.none), (PySem.DictEntry.mk (PySem.PyData.keyHash P (PySem.Str.ofString "MAX_INTERPOLATION_DEPTH")) (PySem.Value.str (PySem.Str.ofString "MAX_INTERPOLATION_DEPTH") 190) (PySem.Value.int (10 : Int) 189)), (PySem.DictEntry.mk (PySem.PyData.keyHash P (PySem.Str.ofString "Error")) (PySem.Value.str (PySem.Str.ofString "Error") 228) (PySem.Value.ref 39)), (PySem.DictEntry.mk (PySem.PyData.keyHash P (PySem.Str.ofString "NoSectionError")) (PySem.Value.str (PySem.Str.ofString "NoSectionError") 254) (PySem.Value.ref 59)), (PySem.DictEntry.mk (PySem.PyData.keyHash P (PySem.Str.ofString "DuplicateSectionError")) (PySem.Value.str (PySem.Str.ofString "DuplicateSectionError") 286) (PySem.Value.ref 79))] 13) #[]))
noncomputable abbrev hd.o_103 : PySem.Params → PySem.Obj := (fun (P : PySem.Params) => (PySem.Obj.mk PySem.Value.none (Option.none) (PySem.Data.fields #[(PySem.Value.int (3 : Int) 0), (PySem.Value.int (0 : Int) 0), (PySem.Value.ref 20), (PySem.Value.int (12 : Int) 0), (PySem.Value.int (0 : Int) 0), (PySem.Value.ref 48), (PySem.Value.int (18 : Int) 0), (PySem.Value.int (0 : Int) 0), (PySem.Value.ref 67)]) #[]))
noncomputable abbrev hd.o_104 : PySem.Params → PySem.Obj := (fun (P : PySem.Params) => (PySem.Obj.mk (PySem.Value.type "type") (Option.none) (PySem.Data.cls (PySem.ClassData.mk (PySem.Str.ofString "Error") [(PySem.Value.type "Exception")] [(PySem.Value.ref 39), (PySem.Value.type "Exception"), (PySem.Value.type "BaseException"), (PySem.Value.type "object")] 38 (PySem.Str.ofString "Error") Bool.true ([] : List PySem.Str) [(PySem.Value.ref 59), (PySem.Value.ref 79)] Bool.false (Option.none) Bool.false)) #[(Option.some (PySem.Value.ref 15)), (Option.none), (Option.some (PySem.Value.str (PySem.Str.ofString "Error") 191)), (Option.some (PySem.Value.str (PySem.Str.ofString "Error") 199)), (Option.some (PySem.Value.builtin "Exception.__new__")), (Option.some (PySem.Value.bool Bool.true))]))
noncomputable abbrev hd.o_105 : PySem.Params → PySem.Obj := (fun (P : PySem.Params) => (PySem.Obj.mk (PySem.Value.type "tuple") (Option.none) (PySem.Data.seq #[(PySem.Value.ref 39)] 0) #[]))
noncomputable abbrev hd.o_106 : PySem.Params → PySem.Obj := (fun (P : PySem.Params) => (PySem.Obj.mk (PySem.Value.type "builtin_function_or_method") (Option.none) (PySem.Data.fields #[(PySem.Value.builtin "type.__prepare__"), (PySem.Value.type "type")]) #[]))
noncomputable abbrev hd.o_107 : PySem.Params → PySem.Obj := (fun (P : PySem.Params) => (PySem.Obj.mk (PySem.Value.type "dict") (Option.none) (PySem.Data.dict #[(PySem.DictEntry.mk (PySem.PyData.keyHash P (PySem.Str.ofString "__module__")) (PySem.Value.str (PySem.Str.ofString "__module__") 262) (PySem.Value.str (PySem.Str.ofString "cpy313.configparser") 187)), (PySem.DictEntry.mk (PySem.PyData.keyHash P (PySem.Str.ofString "__qualname__")) (PySem.Value.str (PySem.Str.ofString "__qualname__") 264) (PySem.Value.str (PySem.Str.ofString "DuplicateSectionError") 263)), (PySem.DictEntry.mk (PySem.PyData.keyHash P (PySem.Str.ofString "__firstlineno__")) (PySem.Value.str (PySem.Str.ofString "__firstlineno__") 266) (PySem.Value.int (18 : Int) 265)), (PySem.DictEntry.mk (PySem.PyData.keyHash P (PySem.Str.ofString "__init__")) (PySem.Value.str (PySem.Str.ofString "__init__") 278) (PySem.Value.ref 76)), (PySem.DictEntry.mk (PySem.PyData.keyHash P (PySem.Str.ofString "__static_attributes__")) (PySem.Value.str (PySem.Str.ofString "__static_attributes__") 283) (PySem.Value.ref 77))] 5) #[]))
noncomputable abbrev hd.o_108 : PySem.Params → PySem.Obj := (fun (P : PySem.Params) => (PySem.Obj.mk (PySem.Value.type "tuple") (Option.none) (PySem.Data.seq #[] 0) #[]))
noncomputable abbrev hd.o_109 : PySem.Params → PySem.Obj := (fun (P : PySem.Params) => (PySem.Obj.mk PySem.Value.none (Option.none) (PySem.Data.fields #[(PySem.Value.int (20 : Int) 0), (PySem.Value.int (4 : Int) 0), (PySem.Value.ref 75)]) #[]))
noncomputable abbrev hd.o_110 : PySem.Params → PySem.Obj := (fun (P : PySem.Params) => (PySem.Obj.mk (PySem.Value.type "code") (Option.none) (PySem.Data.fields #[(PySem.Value.str (PySem.Str.ofString "DuplicateSectionError") 257), (PySem.Value.str (PySem.Str.ofString "DuplicateSectionError") 258), (PySem.Value.str (PySem.Str.ofString "/claim/cut.py") 259), (PySem.Value.int (18 : Int) 0), (PySem.Value.int (0 : Int) 0), (PySem.Value.int (0 : Int) 0), (PySem.Value.int (0 : Int) 0), (PySem.Value.int (0 : Int) 0), (PySem.Value.ref 65), (PySem.Value.bool Bool.false), (PySem.Value.int (181 : Int) 0), (PySem.Value.ref 66), PySem.Value.none, PySem.Value.none, PySem.Value.none, PySem.Value.none, (PySem.Value.int (260 : Int) 0), (PySem.Value.int (18 : Int) 0), (PySem.Value.str (PySem.Str.ofString "/claim/cut.py") 261)]) #[]))
noncomputable abbrev hd.o_111 : PySem.Params → PySem.Obj := (fun (P : PySem.Params) => (PySem.Obj.mk (PySem.Value.type "frame") (Option.none) PySem.Data.plain #[(Option.some (PySem.Value.ref 67)), (Option.some (PySem.Value.ref 3)), (Option.some (PySem.Value.ref 64)), (Option.none), (Option.some (PySem.Value.str (PySem.Str.ofString "cpy313.configparser") 187)), (Option.none), (Option.some (PySem.Value.ref 0))]))
noncomputable abbrev hd.o_112 : PySem.Params → PySem.Obj := (fun (P : PySem.Params) => (PySem.Obj.mk (PySem.Value.type "tuple") (Option.none) (PySem.Data.seq #[PySem.Value.none, PySem.Value.none] 0) #[]))
noncomputable abbrev hd.o_113 : PySem.Params → PySem.Obj := (fun (P : PySem.Params) => (PySem.Obj.mk (PySem.Value.type "tuple") (Option.none) (PySem.Data.seq #[] 0) #[]))
noncomputable abbrev hd.o_114 : PySem.Params → PySem.Obj := (fun (P : PySem.Params) => (PySem.Obj.mk PySem.Value.none (Option.none) (PySem.Data.fields #[]) #[]))
noncomputable abbrev hd.o_115 : PySem.Params → PySem.Obj := (fun (P : PySem.Params) => (PySem.Obj.mk (PySem.Value.type "tuple") (Option.none) (PySem.Data.seq #[(PySem.Value.str (PySem.Str.ofString "self") 270), (PySem.Value.str (PySem.Str.ofString "section") 271), (PySem.Value.str (PySem.Str.ofString "source") 272), (PySem.Value.str (PySem.Str.ofString "lineno") 273), (PySem.Value.str (PySem.Str.ofString "msg") 274), (PySem.Value.str (PySem.Str.ofString "message") 275)] 0) #[]))
noncomputable abbrev hd.o_116 : PySem.Params → PySem.Obj := (fun (P : PySem.Params) => (PySem.Obj.mk (PySem.Value.type "tuple") (Option.none) (PySem.Data.seq #[] 0) #[]))
noncomputable abbrev hd.o_117 : PySem.Params → PySem.Obj := (fun (P : PySem.Params) => (PySem.Obj.mk PySem.Value.none (Option.none) (PySem.Data.func (PySem.FuncData.mk (PySem.Str.ofString "__init__") (PySem.Str.ofString "DuplicateSectionError.__init__") (fP (sIn 4 0)) (PySem.FuncBody.stmts (fB (sIn 4 0))) (fS (sIn 4 0)) 0 ([] : List (Prod PySem.Str Nat)) PySem.Value.none PySem.Value.none PySem.Value.none PySem.Value.none (Option.none) PySem.Value.none PySem.Value.none 0)) #[]))
noncomputable abbrev hd.o_118 : PySem.Params → PySem.Obj := (fun (P : PySem.Params) => (PySem.Obj.mk (PySem.Value.type "code") (Option.none) (PySem.Data.fields #[(PySem.Value.str (PySem.Str.ofString "__init__") 267), (PySem.Value.str (PySem.Str.ofString "DuplicateSectionError.__init__") 268), (PySem.Value.str (PySem.Str.ofString "/claim/cut.py") 269), (PySem.Value.int (20 : Int) 0), (PySem.Value.int (4 : Int) 0), (PySem.Value.int (0 : Int) 0), (PySem.Value.int (0 : Int) 0), (PySem.Value.int (3 : Int) 0), (PySem.Value.ref 70), (PySem.Value.bool Bool.true), (PySem.Value.int (181 : Int) 0), (PySem.Value.ref 71), PySem.Value.none, (PySem.Value.ref 72), (PySem.Value.ref 73), (PySem.Value.ref 74), (PySem.Value.int (276 : Int) 0), (PySem.Value.int (20 : Int) 0), (PySem.Value.str (PySem.Str.ofString "/claim/cut.py") 277)]) #[]))
noncomputable abbrev hd.o_119 : PySem.Params → PySem.Obj := (fun (P : PySem.Params) => (PySem.Obj.mk (PySem.Value.type "function") (Option.none) (PySem.Data.func (PySem.FuncData.mk (PySem.Str.ofString "__init__") (PySem.Str.ofString "DuplicateSectionError.__init__") (fP (sIn 4 0)) (PySem.FuncBody.stmts (fB (sIn 4 0))) (fS (sIn 4 0)) 3 ([] : List (Prod PySem.Str Nat)) (PySem.Value.ref 69) PySem.Value.none PySem.Value.none (PySem.Value.str (PySem.Str.ofString "cpy313.configparser") 187) (Option.none) (PySem.Value.ref 75) PySem.Value.none 0)) #[]))
noncomputable abbrev hd.o_120 : PySem.Params → PySem.Obj := (fun (P : PySem.Params) => (PySem.Obj.mk (PySem.Value.type "tuple") (Option.none) (PySem.Data.seq #[(PySem.Value.str (PySem.Str.ofString "args") 279), (PySem.Value.str (PySem.Str.ofString "lineno") 280), (PySem.Value.str (PySem.Str.ofString "section") 281), (PySem.Value.str (PySem.Str.ofString "source") 282)] 0) #[]))
noncomputable abbrev hd.o_121 : PySem.Params → PySem.Obj := (fun (P : PySem.Params) => (PySem.Obj.mk (PySem.Value.type "dict") (Option.none) (PySem.Data.dict #[(PySem.DictEntry.mk (PySem.PyData.keyHash P (PySem.Str.ofString "__module__")) (PySem.Value.str (PySem.Str.ofString "__module__") 262) (PySem.Value.str (PySem.Str.ofString "cpy313.configparser") 187)), (PySem.DictEntry.mk (PySem.PyData.keyHash P (PySem.Str.ofString "__firstlineno__")) (PySem.Value.str (PySem.Str.ofString "__firstlineno__") 266) (PySem.Value.int (18 : Int) 265)), (PySem.DictEntry.mk (PySem.PyData.keyHash P (PySem.Str.ofString "__init__")) (PySem.Value.str (PySem.Str.ofString "__init__") 278) (PySem.Value.ref 76)), (PySem.DictEntry.mk (PySem.PyData.keyHash P (PySem.Str.ofString "__static_attributes__")) (PySem.Value.str (PySem.Str.ofString "__static_attributes__") 283) (PySem.Value.ref 77)), (PySem.DictEntry.mk (PySem.PyData.keyHash P (PySem.Str.ofString "__doc__")) (PySem.Value.str (PySem.Str.ofString "__doc__") 284) PySem.Value.none)] 2) #[]))
noncomputable abbrev hd.o_122 : PySem.Params → PySem.Obj := (fun (P : PySem.Params) => (PySem.Obj.mk (PySem.Value.type "type") (Option.none) (PySem.Data.cls (PySem.ClassData.mk (PySem.Str.ofString "DuplicateSectionError") [(PySem.Value.ref 39)] [(PySem.Value.ref 79), (PySem.Value.ref 39), (PySem.Value.type "Exception"), (PySem.Value.type "BaseException"), (PySem.Value.type "object")] 78 (PySem.Str.ofString "DuplicateSectionError") Bool.true ([] : List PySem.Str) ([] : List PySem.Value) Bool.false (Option.none) Bool.false)) #[(Option.some (PySem.Value.ref 62)), (Option.none), (Option.some (PySem.Value.str (PySem.Str.ofString "DuplicateSectionError") 255)), (Option.some (PySem.Value.str (PySem.Str.ofString "DuplicateSectionError") 263)), (Option.some (PySem.Value.builtin "Exception.__new__")), (Option.some (PySem.Value.bool Bool.true))]))
noncomputable abbrev hd.o_123 : PySem.Params → PySem.Obj := (fun (P : PySem.Params) => (PySem.Obj.mk (PySem.Value.type "super") (Option.none) (PySem.Data.fields #[(PySem.Value.ref 79), (PySem.Value.ref 79), (PySem.Value.ref 79)]) #[]))
noncomputable abbrev hd.o_124 : PySem.Params → PySem.Obj := (fun (P : PySem.Params) => (PySem.Obj.mk (PySem.Value.type "builtin_function_or_method") (Option.none) (PySem.Data.fields #[(PySem.Value.builtin "object.__init_subclass__"), (PySem.Value.ref 79)]) #[]))
noncomputable abbrev hd.o_125 : PySem.Params → PySem.Obj := (fun (P : PySem.Params) => (PySem.Obj.mk (PySem.Value.type "dict") (Option.none) (PySem.Data.dict #[(PySem.DictEntry.mk (PySem.PyData.keyHash P (PySem.Str.ofString "__name__")) (PySem.Value.str (PySem.Str.ofString "__name__") 165) (PySem.Value.str (PySem.Str.ofString "cpy313.configparser") 187)), (PySem.DictEntry.mk (PySem.PyData.keyHash P (PySem.Str.ofString "__doc__")) (PySem.Value.str (PySem.Str.ofString "__doc__") 166) PySem.Value.none), (PySem.DictEntry.mk (PySem.PyData.keyHash P (PySem.Str.ofString "__package__")) (PySem.Value.str (PySem.Str.ofString "__package__") 167) PySem.Value.none), (PySem.DictEntry.mk (PySem.PyData.keyHash P (PySem.Str.ofString "__loader__")) (PySem.Value.str (PySem.Str.ofString "__loader__") 168) (PySem.Value.builtin "__main__.__loader__#opaque")), (PySem.DictEntry.mk (PySem.PyData.keyHash P (PySem.Str.ofString "__spec__")) (PySem.Value.str (PySem.Str.ofString "__spec__") 169) PySem.Value.none), (PySem.DictEntry.mk (PySem.PyData.keyHash P (PySem.Str.ofString "__annotations__")) (PySem.Value.str (PySem.Str.ofString "__annotations__") 170) (PySem.Value.ref 6)), (PySem.DictEntry.mk (PySem.PyData.keyHash P (PySem.Str.ofString "__builtins__")) (PySem.Value.str (PySem.Str.ofString "__builtins__") 171) (PySem.Value.ref 4)), (PySem.DictEntry.mk (PySem.PyData.keyHash P (PySem.Str.ofString "__file__")) (PySem.Value.str (PySem.Str.ofString "__file__") 173) (PySem.Value.str (PySem.Str.ofString "/claim/cut.py") 172)), (PySem.DictEntry.mk (PySem.PyData.keyHash P (PySem.Str.ofString "__cached__")) (PySem.Value.str (PySem.Str.ofString "__cached__") 174) PySem.Value.none), (PySem.DictEntry.mk (PySem.PyData.keyHash P (PySem.Str.ofString "MAX_INTERPOLATION_DEPTH")) (PySem.Value.str (PySem.Str.ofString "MAX_INTERPOLATION_DEPTH") 190) (PySem.Value.int (10 : Int) 189)), (PySem.DictEntry.mk (PySem.PyData.keyHash P (PySem.Str.ofString "Error")) (PySem.Value.str (PySem.Str.ofString "Error") 228) (PySem.Value.ref 39)), (PySem.DictEntry.mk (PySem.PyData.keyHash P (PySem.Str.ofString "NoSectionError")) (PySem.Value.str (PySem.Str.ofString "NoSectionError") 254) (PySem.Value.ref 59)), (PySem.DictEntry.mk (PySem.PyData.keyHash P (PySem.Str.ofString "DuplicateSectionError")) (PySem.Value.str (PySem.Str.ofString "DuplicateSectionError") 286) (PySem.Value.ref 79)), (PySem.DictEntry.mk (PySem.PyData.keyHash P (PySem.Str.ofString "DuplicateOptionError")) (PySem.Value.str (PySem.Str.ofString "DuplicateOptionError") 320) (PySem.Value.ref 99))] 14) #[]))
noncomputable abbrev hd.o_126 : PySem.Params → PySem.Obj := (fun (P : PySem.Params) => (PySem.Obj.mk PySem.Value.none (Option.none) (PySem.Data.fields #[(PySem.Value.int (3 : Int) 0), (PySem.Value.int (0 : Int) 0), (PySem.Value.ref 20), (PySem.Value.int (12 : Int) 0), (PySem.Value.int (0 : Int) 0), (PySem.Value.ref 48), (PySem.Value.int (18 : Int) 0), (PySem.Value.int (0 : Int) 0), (PySem.Value.ref 67), (PySem.Value.int (36 : Int) 0), (PySem.Value.int (0 : Int) 0), (PySem.Value.ref 87)]) #[]))
noncomputable abbrev hd.o_127 : PySem.Params → PySem.Obj := (fun (P : PySem.Params) => (PySem.Obj.mk (PySem.Value.type "type") (Option.none) (PySem.Data.cls (PySem.ClassData.mk (PySem.Str.ofString "Error") [(PySem.Value.type "Exception")] [(PySem.Value.ref 39), (PySem.Value.type "Exception"), (PySem.Value.type "BaseException"), (PySem.Value.type "object")] 38 (PySem.Str.ofString "Error") Bool.true ([] : List PySem.Str) [(PySem.Value.ref 59), (PySem.Value.ref 79), (PySem.Value.ref 99)] Bool.false (Option.none) Bool.false)) #[(Option.some (PySem.Value.ref 15)), (Option.none), (Option.some (PySem.Value.str (PySem.Str.ofString "Error") 191)), (Option.some (PySem.Value.str (PySem.Str.ofString "Error") 199)), (Option.some (PySem.Value.builtin "Exception.__new__")), (Option.some (PySem.Value.bool Bool.true))]))
noncomputable abbrev hd.o_128 : PySem.Params → PySem.Obj := (fun (P : PySem.Params) => (PySem.Obj.mk (PySem.Value.type "tuple") (Option.none) (PySem.Data.seq #[(PySem.Value.ref 39)] 0) #[]))
noncomputable abbrev hd.o_129 : PySem.Params → PySem.Obj := (fun (P : PySem.Params) => (PySem.Obj.mk (PySem.Value.type "builtin_function_or_method") (Option.none) (PySem.Data.fields #[(PySem.Value.builtin "type.__prepare__"), (PySem.Value.type "type")]) #[]))
noncomputable abbrev hd.o_130 : PySem.Params → PySem.Obj := (fun (P : PySem.Params) => (PySem.Obj.mk (PySem.Value.type "dict") (Option.none) (PySem.Data.dict #[(PySem.DictEntry.mk (PySem.PyData.keyHash P (PySem.Str.ofString "__module__")) (PySem.Value.str (PySem.Str.ofString "__module__") 294) (PySem.Value.str (PySem.Str.ofString "cpy313.configparser") 187)), (PySem.DictEntry.mk (PySem.PyData.keyHash P (PySem.Str.ofString "__qualname__")) (PySem.Value.str (PySem.Str.ofString "__qualname__") 296) (PySem.Value.str (PySem.Str.ofString "DuplicateOptionError") 295)), (PySem.DictEntry.mk (PySem.PyData.keyHash P (PySem.Str.ofString "__firstlineno__")) (PySem.Value.str (PySem.Str.ofString "__firstlineno__") 298) (PySem.Value.int (36 : Int) 297)), (PySem.DictEntry.mk (PySem.PyData.keyHash P (PySem.Str.ofString "__init__")) (PySem.Value.str (PySem.Str.ofString "__init__") 311) (PySem.Value.ref 96)), (PySem.DictEntry.mk (PySem.PyData.keyHash P (PySem.Str.ofString "__static_attributes__")) (PySem.Value.str (PySem.Str.ofString "__static_attributes__") 317) (PySem.Value.ref 97))] 5) #[]))
noncomputable abbrev hd.o_131 : PySem.Params → PySem.Obj := (fun (P : PySem.Params) => (PySem.Obj.mk (PySem.Value.type "tuple") (Option.none) (PySem.Data.seq #[] 0) #[]))
noncomputable abbrev hd.o_132 : PySem.Params → PySem.Obj := (fun (P : PySem.Params) => (PySem.Obj.mk PySem.Value.none (Option.none) (PySem.Data.fields #[(PySem.Value.int (38 : Int) 0), (PySem.Value.int (4 : Int) 0), (PySem.Value.ref 95)]) #[]))
noncomputable abbrev hd.o_133 : PySem.Params → PySem.Obj := (fun (P : PySem.Params) => (PySem.Obj.mk (PySem.Value.type "code") (Option.none) (PySem.Data.fields #[(PySem.Value.str (PySem.Str.ofString "DuplicateOptionError") 289), (PySem.Value.str (PySem.Str.ofString "DuplicateOptionError") 290), (PySem.Value.str (PySem.Str.ofString "/claim/cut.py") 291), (PySem.Value.int (36 : Int) 0), (PySem.Value.int (0 : Int) 0), (PySem.Value.int (0 : Int) 0), (PySem.Value.int (0 : Int) 0), (PySem.Value.int (0 : Int) 0), (PySem.Value.ref 85), (PySem.Value.bool Bool.false), (PySem.Value.int (181 : Int) 0), (PySem.Value.ref 86), PySem.Value.none, PySem.Value.none, PySem.Value.none, PySem.Value.none, (PySem.Value.int (292 : Int) 0), (PySem.Value.int (36 : Int) 0), (PySem.Value.str (PySem.Str.ofString "/claim/cut.py") 293)]) #[]))
noncomputable abbrev hd.o_134 : PySem.Params → PySem.Obj := (fun (P : PySem.Params) => (PySem.Obj.mk (PySem.Value.type "frame") (Option.none) PySem.Data.plain #[(Option.some (PySem.Value.ref 87)), (Option.some (PySem.Value.ref 3)), (Option.some (PySem.Value.ref 84)), (Option.none), (Option.some (PySem.Value.str (PySem.Str.ofString "cpy313.configparser") 187)), (Option.none), (Option.some (PySem.Value.ref 0))]))
noncomputable abbrev hd.o_135 : PySem.Params → PySem.Obj := (fun (P : PySem.Params) => (PySem.Obj.mk (PySem.Value.type "tuple") (Option.none) (PySem.Data.seq #[PySem.Value.none, PySem.Value.none] 0) #[]))
noncomputable abbrev hd.o_136 : PySem.Params → PySem.Obj := (fun (P : PySem.Params) => (PySem.Obj.mk (PySem.Value.type "tuple") (Option.none) (PySem.Data.seq #[] 0) #[]))
noncomputable abbrev hd.o_137 : PySem.Params → PySem.Obj := (fun (P : PySem.Params) => (PySem.Obj.mk PySem.Value.none (Option.none) (PySem.Data.fields #[]) #[]))
noncomputable abbrev hd.o_138 : PySem.Params → PySem.Obj := (fun (P : PySem.Params) => (PySem.Obj.mk (PySem.Value.type "tuple") (Option.none) (PySem.Data.seq #[(PySem.Value.str (PySem.Str.ofString "self") 302), (PySem.Value.str (PySem.Str.ofString "section") 303), (PySem.Value.str (PySem.Str.ofString "option") 304), (PySem.Value.str (PySem.Str.ofString "source") 305), (PySem.Value.str (PySem.Str.ofString "lineno") 306), (PySem.Value.str (PySem.Str.ofString "msg") 307), (PySem.Value.str (PySem.Str.ofString "message") 308)] 0) #[]))
noncomputable abbrev hd.o_139 : PySem.Params → PySem.Obj := (fun (P : PySem.Params) => (PySem.Obj.mk (PySem.Value.type "tuple") (Option.none) (PySem.Data.seq #[] 0) #[]))
noncomputable abbrev hd.o_140 : PySem.Params → PySem.Obj := (fun (P : PySem.Params) => (PySem.Obj.mk PySem.Value.none (Option.none) (PySem.Data.func (PySem.FuncData.mk (PySem.Str.ofString "__init__") (PySem.Str.ofString "DuplicateOptionError.__init__") (fP (sIn 5 0)) (PySem.FuncBody.stmts (fB (sIn 5 0))) (fS (sIn 5 0)) 0 ([] : List (Prod PySem.Str Nat)) PySem.Value.none PySem.Value.none PySem.Value.none PySem.Value.none (Option.none) PySem.Value.none PySem.Value.none 0)) #[]))
noncomputable abbrev hd.o_141 : PySem.Params → PySem.Obj := (fun (P : PySem.Params) => (PySem.Obj.mk (PySem.Value.type "code") (Option.none) (PySem.Data.fields #[(PySem.Value.str (PySem.Str.ofString "__init__") 299), (PySem.Value.str (PySem.Str.ofString "DuplicateOptionError.__init__") 300), (PySem.Value.str (PySem.Str.ofString "/claim/cut.py") 301), (PySem.Value.int (38 : Int) 0), (PySem.Value.int (5 : Int) 0), (PySem.Value.int (0 : Int) 0), (PySem.Value.int (0 : Int) 0), (PySem.Value.int (3 : Int) 0), (PySem.Value.ref 90), (PySem.Value.bool Bool.true), (PySem.Value.int (181 : Int) 0), (PySem.Value.ref 91), PySem.Value.none, (PySem.Value.ref 92), (PySem.Value.ref 93), (PySem.Value.ref 94), (PySem.Value.int (309 : Int) 0), (PySem.Value.int (38 : Int) 0), (PySem.Value.str (PySem.Str.ofString "/claim/cut.py") 310)]) #[]))
noncomputable abbrev hd.o_142 : PySem.Params → PySem.Obj := (fun (P : PySem.Params) => (PySem.Obj.mk (PySem.Value.type "function") (Option.none) (PySem.Data.func (PySem.FuncData.mk (PySem.Str.ofString "__init__") (PySem.Str.ofString "DuplicateOptionError.__init__") (fP (sIn 5 0)) (PySem.FuncBody.stmts (fB (sIn 5 0))) (fS (sIn 5 0)) 3 ([] : List (Prod PySem.Str Nat)) (PySem.Value.ref 89) PySem.Value.none PySem.Value.none (PySem.Value.str (PySem.Str.ofString "cpy313.configparser") 187) (Option.none) (PySem.Value.ref 95) PySem.Value.none 0)) #[]))
noncomputable abbrev hd.o_143 : PySem.Params → PySem.Obj := (fun (P : PySem.Params) => (PySem.Obj.mk (PySem.Value.type "tuple") (Option.none) (PySem.Data.seq #[(PySem.Value.str (PySem.Str.ofString "args") 312), (PySem.Value.str (PySem.Str.ofString "lineno") 313), (PySem.Value.str (PySem.Str.ofString "option") 314), (PySem.Value.str (PySem.Str.ofString "section") 315), (PySem.Value.str (PySem.Str.ofString "source") 316)] 0) #[]))
noncomputable abbrev hd.o_144 : PySem.Params → PySem.Obj := (fun (P : PySem.Params) => (PySem.Obj.mk (PySem.Value.type "dict") (Option.none) (PySem.Data.dict #[(PySem.DictEntry.mk (PySem.PyData.keyHash P (PySem.Str.ofString "__module__")) (PySem.Value.str (PySem.Str.ofString "__module__") 294) (PySem.Value.str (PySem.Str.ofString "cpy313.configparser") 187)), (PySem.DictEntry.mk (PySem.PyData.keyHash P (PySem.Str.ofString "__firstlineno__")) (PySem.Value.str (PySem.Str.ofString "__firstlineno__") 298) (PySem.Value.int (36 : Int) 297)), (PySem.DictEntry.mk (PySem.PyData.keyHash P (PySem.Str.ofString "__init__")) (PySem.Value.str (PySem.Str.ofString "__init__") 311) (PySem.Value.ref 96)), (PySem.DictEntry.mk (PySem.PyData.keyHash P (PySem.Str.ofString "__static_attributes__")) (PySem.Value.str (PySem.Str.ofString "__static_attributes__") 317) (PySem.Value.ref 97)), (PySem.DictEntry.mk (PySem.PyData.keyHash P (PySem.Str.ofString "__doc__")) (PySem.Value.str (PySem.Str.ofString "__doc__") 318) PySem.Value.none)] 2) #[]))
noncomputable abbrev hd.o_145 : PySem.Params → PySem.Obj := (fun (P : PySem.Params) => (PySem.Obj.mk (PySem.Value.type "type") (Option.none) (PySem.Data.cls (PySem.ClassData.mk (PySem.Str.ofString "DuplicateOptionError") [(PySem.Value.ref 39)] [(PySem.Value.ref 99), (PySem.Value.ref 39), (PySem.Value.type "Exception"), (PySem.Value.type "BaseException"), (PySem.Value.type "object")] 98 (PySem.Str.ofString "DuplicateOptionError") Bool.true ([] : List PySem.Str) ([] : List PySem.Value) Bool.false (Option.none) Bool.false)) #[(Option.some (PySem.Value.ref 82)), (Option.none), (Option.some (PySem.Value.str (PySem.Str.ofString "DuplicateOptionError") 287)), (Option.some (PySem.Value.str (PySem.Str.ofString "DuplicateOptionError") 295)), (Option.some (PySem.Value.builtin "Exception.__new__")), (Option.some (PySem.Value.bool Bool.true))]))
noncomputable abbrev hd.o_146 : PySem.Params → PySem.Obj := (fun (P : PySem.Params) => (PySem.Obj.mk (PySem.Value.type "super") (Option.none) (PySem.Data.fields #[(PySem.Value.ref 99), (PySem.Value.ref 99), (PySem.Value.ref 99)]) #[]))
noncomputable abbrev hd.o_147 : PySem.Params → PySem.Obj := (fun (P : PySem.Params) => (PySem.Obj.mk (PySem.Value.type "builtin_function_or_method") (Option.none) (PySem.Data.fields #[(PySem.Value.builtin "object.__init_subclass__"), (PySem.Value.ref 99)]) #[]))
noncomputable abbrev hd.o_148 : PySem.Params → PySem.Obj := (fun (P : PySem.Params) => (PySem.Obj.mk (PySem.Value.type "dict") (Option.none) (PySem.Data.dict #[(PySem.DictEntry.mk (PySem.PyData.keyHash P (PySem.Str.ofString "__name__")) (PySem.Value.str (PySem.Str.ofString "__name__") 165) (PySem.Value.str (PySem.Str.ofString "cpy313.configparser") 187)), (PySem.DictEntry.mk (PySem.PyData.keyHash P (PySem.Str.ofString "__doc__")) (PySem.Value.str (PySem.Str.ofString "__doc__") 166) PySem.Value.none), (PySem.DictEntry.mk (PySem.PyData.keyHash P (PySem.Str.ofString "__package__")) (PySem.Value.str (PySem.Str.ofString "__package__") 167) PySem.Value.none), (PySem.DictEntry.mk (PySem.PyData.keyHash P (PySem.Str.ofString "__loader__")) (PySem.Value.str (PySem.Str.ofString "__loader__") 168) (PySem.Value.builtin "__main__.__loader__#opaque")), (PySem.DictEntry.mk (PySem.PyData.keyHash P (PySem.Str.ofString "__spec__")) (PySem.Value.str (PySem.Str.ofString "__spec__") 169) PySem.Value.none), (PySem.DictEntry.mk (PySem.PyData.keyHash P (PySem.Str.ofString "__annotations__")) (PySem.Value.str (PySem.Str.ofString "__annotations__") 170) (PySem.Value.ref 6)), (PySem.DictEntry.mk (PySem.PyData.keyHash P (PySem.Str.ofString "__builtins__")) (PySem.Value.str (PySem.Str.ofString "__builtins__") 171) (PySem.Value.ref 4)), (PySem.DictEntry.mk (PySem.PyData.keyHash P (PySem.Str.ofString "__file__")) (PySem.Value.str (PySem.Str.ofString "__file__") 173) (PySem.Value.str (PySem.Str.ofString "/claim/cut.py") 172)), (PySem.DictEntry.mk (PySem.PyData.keyHash P (PySem.Str.ofString "__cached__")) (PySem.Value.str (PySem.Str.ofString "__cached__") 174) PySem.Value.none), (PySem.DictEntry.mk (PySem.PyData.keyHash P (PySem.Str.ofString "MAX_INTERPOLATION_DEPTH")) (PySem.Value.str (PySem.Str.ofString "MAX_INTERPOLATION_DEPTH") 190) (PySem.Value.int (10 : Int) 189)), (PySem.DictEntry.mk (PySem.PyData.keyHash P (PySem.Str.ofString "Error")) (PySem.Value.str (PySem.Str.ofString "Error") 228) (PySem.Value.ref 39)), (PySem.DictEntry.mk (PySem.PyData.keyHash P (PySem.Str.ofString "NoSectionError")) (PySem.Value.str (PySem.Str.ofString "NoSectionError") 254) (PySem.Value.ref 59)), (PySem.DictEntry.mk (PySem.PyData.keyHash P (PySem.Str.ofString "DuplicateSectionError")) (PySem.Value.str (PySem.Str.ofString "DuplicateSectionError") 286) (PySem.Value.ref 79)), (PySem.DictEntry.mk (PySem.PyData.keyHash P (PySem.Str.ofString "DuplicateOptionError")) (PySem.Value.str (PySem.Str.ofString "DuplicateOptionError") 320) (PySem.Value.ref 99)), (PySem.DictEntry.mk (PySem.PyData.keyHash P (PySem.Str.ofString "NoOptionError")) (PySem.Value.str (PySem.Str.ofString "NoOptionError") 348) (PySem.Value.ref 118))] 15) #[]))
noncomputable abbrev hd.o_149 : PySem.Params → PySem.Obj := (fun (P : PySem.Params) => (PySem.Obj.mk PySem.Value.none (Option.none) (PySem.Data.fields #[(PySem.Value.int (3 : Int) 0), (PySem.Value.int (0 : Int) 0), (PySem.Value.ref 20), (PySem.Value.int (12 : Int) 0), (PySem.Value.int (0 : Int) 0), (PySem.Value.ref 48), (PySem.Value.int (18 : Int) 0), (PySem.Value.int (0 : Int) 0), (PySem.Value.ref 67), (PySem.Value.int (36 : Int) 0), (PySem.Value.int (0 : Int) 0), (PySem.Value.ref 87), (PySem.Value.int (55 : Int) 0), (PySem.Value.int (0 : Int) 0), (PySem.Value.ref 107)]) #[]))
noncomputable abbrev hd.o_150 : PySem.Params → PySem.Obj := (fun (P : PySem.Params) => (PySem.Obj.mk (PySem.Value.type "type") (Option.none) (PySem.Data.cls (PySem.ClassData.mk (PySem.Str.ofString "Error") [(PySem.Value.type "Exception")] [(PySem.Value.ref 39), (PySem.Value.type "Exception"), (PySem.Value.type "BaseException"), (PySem.Value.type "object")] 38 (PySem.Str.ofString "Error") Bool.true ([] : List PySem.Str) [(PySem.Value.ref 59), (PySem.Value.ref 79), (PySem.Value.ref 99), (PySem.Value.ref 118)] Bool.false (Option.none) Bool.false)) #[(Option.some (PySem.Value.ref 15)), (Option.none), (Option.some (PySem.Value.str (PySem.Str.ofString "Error") 191)), (Option.some (PySem.Value.str (PySem.Str.ofString "Error") 199)), (Option.some (PySem.Value.builtin "Exception.__new__")), (Option.some (PySem.Value.bool Bool.true))]))
noncomputable abbrev hd.o_151 : PySem.Params → PySem.Obj := (fun (P : PySem.Params) => (PySem.Obj.mk (PySem.Value.type "tuple") (Option.none) (PySem.Data.seq #[(PySem.Value.ref 39)] 0) #[]))
noncomputable abbrev hd.o_152 : PySem.Params → PySem.Obj := (fun (P : PySem.Params) => (PySem.Obj.mk (PySem.Value.type "builtin_function_or_method") (Option.none) (PySem.Data.fields #[(PySem.Value.builtin "type.__prepare__"), (PySem.Value.type "type")]) #[]))
noncomputable abbrev hd.o_153 : PySem.Params → PySem.Obj := (fun (P : PySem.Params) => (PySem.Obj.mk (PySem.Value.type "dict") (Option.none) (PySem.Data.dict #[(PySem.DictEntry.mk (PySem.PyData.keyHash P (PySem.Str.ofString "__module__")) (PySem.Value.str (PySem.Str.ofString "__module__") 328) (PySem.Value.str (PySem.Str.ofString "cpy313.configparser") 187)), (PySem.DictEntry.mk (PySem.PyData.keyHash P (PySem.Str.ofString "__qualname__")) (PySem.Value.str (PySem.Str.ofString "__qualname__") 330) (PySem.Value.str (PySem.Str.ofString "NoOptionError") 329)), (PySem.DictEntry.mk (PySem.PyData.keyHash P (PySem.Str.ofString "__firstlineno__")) (PySem.Value.str (PySem.Str.ofString "__firstlineno__") 332) (PySem.Value.int (55 : Int) 331)), (PySem.DictEntry.mk (PySem.PyData.keyHash P (PySem.Str.ofString "__init__")) (PySem.Value.str (PySem.Str.ofString "__init__") 341) (PySem.Value.ref 115)), (PySem.DictEntry.mk (PySem.PyData.keyHash P (PySem.Str.ofString "__static_attributes__")) (PySem.Value.str (PySem.Str.ofString "__static_attributes__") 345) (PySem.Value.ref 116))] 5) #[]))
noncomputable abbrev hd.o_154 : PySem.Params → PySem.Obj := (fun (P : PySem.Params) => (PySem.Obj.mk (PySem.Value.type "tuple") (Option.none) (PySem.Data.seq #[] 0) #[]))
noncomputable abbrev hd.o_155 : PySem.Params → PySem.Obj := (fun (P : PySem.Params) => (PySem.Obj.mk PySem.Value.none (Option.none) (PySem.Data.fields #[(PySem.Value.int (57 : Int) 0), (PySem.Value.int (4 : Int) 0), (PySem.Value.ref 114)]) #[]))
noncomputable abbrev hd.o_156 : PySem.Params → PySem.Obj := (fun (P : PySem.Params) => (PySem.Obj.mk (PySem.Value.type "code") (Option.none) (PySem.Data.fields #[(PySem.Value.str (PySem.Str.ofString "NoOptionError") 323), (PySem.Value.str (PySem.Str.ofString "NoOptionError") 324), (PySem.Value.str (PySem.Str.ofString "/claim/cut.py") 325), (PySem.Value.int (55 : Int) 0), (PySem.Value.int (0 : Int) 0), (PySem.Value.int (0 : Int) 0), (PySem.Value.int (0 : Int) 0), (PySem.Value.int (0 : Int) 0), (PySem.Value.ref 105), (PySem.Value.bool Bool.false), (PySem.Value.int (181 : Int) 0), (PySem.Value.ref 106), PySem.Value.none, PySem.Value.none, PySem.Value.none, PySem.Value.none, (PySem.Value.int (326 : Int) 0), (PySem.Value.int (55 : Int) 0), (PySem.Value.str (PySem.Str.ofString "/claim/cut.py") 327)]) #[]))
noncomputable abbrev hd.o_157 : PySem.Params → PySem.Obj := (fun (P : PySem.Params) => (PySem.Obj.mk (PySem.Value.type "frame") (Option.none) PySem.Data.plain #[(Option.some (PySem.Value.ref 107)), (Option.some (PySem.Value.ref 3)), (Option.some (PySem.Value.ref 104)), (Option.none), (Option.some (PySem.Value.str (PySem.Str.ofString "cpy313.configparser") 187)), (Option.none), (Option.some (PySem.Value.ref 0))]))
noncomputable abbrev hd.o_158 : PySem.Params → PySem.Obj := (fun (P : PySem.Params) => (PySem.Obj.mk (PySem.Value.type "tuple") (Option.none) (PySem.Data.seq #[] 0) #[]))
noncomputable abbrev hd.o_159 : PySem.Params → PySem.Obj := (fun (P : PySem.Params) => (PySem.Obj.mk PySem.Value.none (Option.none) (PySem.Data.fields #[]) #[]))
noncomputable abbrev hd.o_160 : PySem.Params → PySem.Obj := (fun (P : PySem.Params) => (PySem.Obj.mk (PySem.Value.type "tuple") (Option.none) (PySem.Data.seq #[(PySem.Value.str (PySem.Str.ofString "self") 336), (PySem.Value.str (PySem.Str.ofString "option") 337), (PySem.Value.str (PySem.Str.ofString "section") 338)] 0) #[]))
noncomputable abbrev hd.o_161 : PySem.Params → PySem.Obj := (fun (P : PySem.Params) => (PySem.Obj.mk (PySem.Value.type "tuple") (Option.none) (PySem.Data.seq #[] 0) #[]))
noncomputable abbrev hd.o_162 : PySem.Params → PySem.Obj := (fun (P : PySem.Params) => (PySem.Obj.mk PySem.Value.none (Option.none) (PySem.Data.func (PySem.FuncData.mk (PySem.Str.ofString "__init__") (PySem.Str.ofString "NoOptionError.__init__") (fP (sIn 6 0)) (PySem.FuncBody.stmts (fB (sIn 6 0))) (fS (sIn 6 0)) 0 ([] : List (Prod PySem.Str Nat)) PySem.Value.none PySem.Value.none PySem.Value.none PySem.Value.none (Option.none) PySem.Value.none PySem.Value.none 0)) #[]))
noncomputable abbrev hd.o_163 : PySem.Params → PySem.Obj := (fun (P : PySem.Params) => (PySem.Obj.mk (PySem.Value.type "code") (Option.none) (PySem.Data.fields #[(PySem.Value.str (PySem.Str.ofString "__init__") 333), (PySem.Value.str (PySem.Str.ofString "NoOptionError.__init__") 334), (PySem.Value.str (PySem.Str.ofString "/claim/cut.py") 335), (PySem.Value.int (57 : Int) 0), (PySem.Value.int (3 : Int) 0), (PySem.Value.int (0 : Int) 0), (PySem.Value.int (0 : Int) 0), (PySem.Value.int (3 : Int) 0), (PySem.Value.ref 109), (PySem.Value.bool Bool.true), (PySem.Value.int (181 : Int) 0), (PySem.Value.ref 110), PySem.Value.none, (PySem.Value.ref 111), (PySem.Value.ref 112), (PySem.Value.ref 113), (PySem.Value.int (339 : Int) 0), (PySem.Value.int (57 : Int) 0), (PySem.Value.str (PySem.Str.ofString "/claim/cut.py") 340)]) #[]))
noncomputable abbrev hd.o_164 : PySem.Params → PySem.Obj := (fun (P : PySem.Params) => (PySem.Obj.mk (PySem.Value.type "function") (Option.none) (PySem.Data.func (PySem.FuncData.mk (PySem.Str.ofString "__init__") (PySem.Str.ofString "NoOptionError.__init__") (fP (sIn 6 0)) (PySem.FuncBody.stmts (fB (sIn 6 0))) (fS (sIn 6 0)) 3 ([] : List (Prod PySem.Str Nat)) PySem.Value.none PySem.Value.none PySem.Value.none (PySem.Value.str (PySem.Str.ofString "cpy313.configparser") 187) (Option.none) (PySem.Value.ref 114) PySem.Value.none 0)) #[]))
noncomputable abbrev hd.o_165 : PySem.Params → PySem.Obj := (fun (P : PySem.Params) => (PySem.Obj.mk (PySem.Value.type "tuple") (Option.none) (PySem.Data.seq #[(PySem.Value.str (PySem.Str.ofString "args") 342), (PySem.Value.str (PySem.Str.ofString "option") 343), (PySem.Value.str (PySem.Str.ofString "section") 344)] 0) #[]))
noncomputable abbrev hd.o_166 : PySem.Params → PySem.Obj := (fun (P : PySem.Params) => (PySem.Obj.mk (PySem.Value.type "dict") (Option.none) (PySem.Data.dict #[(PySem.DictEntry.mk (PySem.PyData.keyHash P (PySem.Str.ofString "__module__")) (PySem.Value.str (PySem.Str.ofString "__module__") 328) (PySem.Value.str (PySem.Str.ofString "cpy313.configparser") 187)), (PySem.DictEntry.mk (PySem.PyData.keyHash P (PySem.Str.ofString "__firstlineno__")) (PySem.Value.str (PySem.Str.ofString "__firstlineno__") 332) (PySem.Value.int (55 : Int) 331)), (PySem.DictEntry.mk (PySem.PyData.keyHash P (PySem.Str.ofString "__init__")) (PySem.Value.str (PySem.Str.ofString "__init__") 341) (PySem.Value.ref 115)), (PySem.DictEntry.mk (PySem.PyData.keyHash P (PySem.Str.ofString "__static_attributes__")) (PySem.Value.str (PySem.Str.ofString "__static_attributes__") 345) (PySem.Value.ref 116)), (PySem.DictEntry.mk (PySem.PyData.keyHash P (PySem.Str.ofString "__doc__")) (PySem.Value.str (PySem.Str.ofString "__doc__") 346) PySem.Value.none)] 2) #[]))
noncomputable abbrev hd.o_167 : PySem.Params → PySem.Obj := (fun (P : PySem.Params) => (PySem.Obj.mk (PySem.Value.type "type") (Option.none) (PySem.Data.cls (PySem.ClassData.mk (PySem.Str.ofString "NoOptionError") [(PySem.Value.ref 39)] [(PySem.Value.ref 118), (PySem.Value.ref 39), (PySem.Value.type "Exception"), (PySem.Value.type "BaseException"), (PySem.Value.type "object")] 117 (PySem.Str.ofString "NoOptionError") Bool.true ([] : List PySem.Str) ([] : List PySem.Value) Bool.false (Option.none) Bool.false)) #[(Option.some (PySem.Value.ref 102)), (Option.none), (Option.some (PySem.Value.str (PySem.Str.ofString "NoOptionError") 321)), (Option.some (PySem.Value.str (PySem.Str.ofString "NoOptionError") 329)), (Option.some (PySem.Value.builtin "Exception.__new__")), (Option.some (PySem.Value.bool Bool.true))]))
noncomputable abbrev hd.o_168 : PySem.Params → PySem.Obj := (fun (P : PySem.Params) => (PySem.Obj.mk (PySem.Value.type "super") (Option.none) (PySem.Data.fields #[(PySem.Value.ref 118), (PySem.Value.ref 118), (PySem.Value.ref 118)]) #[]))
noncomputable abbrev hd.o_169 : PySem.Params → PySem.Obj := (fun (P : PySem.Params) => (PySem.Obj.mk (PySem.Value.type "builtin_function_or_method") (Option.none) (PySem.Data.fields #[(PySem.Value.builtin "object.__init_subclass__"), (PySem.Value.ref 118)]) #[]))
noncomputable abbrev hd.o_170 : PySem.Params → PySem.Obj := (fun (P : PySem.Params) => (PySem.Obj.mk (PySem.Value.type "dict") (Option.none) (PySem.Data.dict #[(PySem.DictEntry.mk (PySem.PyData.keyHash P (PySem.Str.ofString "__name__")) (PySem.Value.str (PySem.Str.ofString "__name__") 165) (PySem.Value.str (PySem.Str.ofString "cpy313.configparser") 187)), (PySem.DictEntry.mk (PySem.PyData.keyHash P (PySem.Str.ofString "__doc__")) (PySem.Value.str (PySem.Str.ofString "__doc__") 166) PySem.Value.none), (PySem.DictEntry.mk (PySem.PyData.keyHash P (PySem.Str.ofString "__package__")) (PySem.Value.str (PySem.Str.ofString "__package__") 167) PySem.Value.none), (PySem.DictEntry.mk (PySem.PyData.keyHash P (PySem.Str.ofString "__loader__")) (PySem.Value.str (PySem.Str.ofString "__loader__") 168) (PySem.Value.builtin "__main__.__loader__#opaque")), (PySem.DictEntry.mk (PySem.PyData.keyHash P (PySem.Str.ofString "__spec__")) (PySem.Value.str (PySem.Str.ofString "__spec__") 169) PySem.Value.none), (PySem.DictEntry.mk (PySem.PyData.keyHash P (PySem.Str.ofString "__annotations__")) (PySem.Value.str (PySem.Str.ofString "__annotations__") 170) (PySem.Value.ref 6)), (PySem.DictEntry.mk (PySem.PyData.keyHash P (PySem.Str.ofString "__builtins__")) (PySem.Value.str (PySem.Str.ofString "__builtins__") 171) (PySem.Value.ref 4)), (PySem.DictEntry.mk (PySem.PyData.keyHash P (PySem.Str.ofString "__file__")) (PySem.Value.str (PySem.Str.ofString "__file__") 173) (PySem.Value.str (PySem.Str.ofString "/claim/cut.py") 172)), (PySem.DictEntry.mk (PySem.PyData.keyHash P (PySem.Str.ofString "__cached__")) (PySem.Value.str (PySem.Str.ofString "__cached__") 174) PySem.Value.none), (PySem.DictEntry.mk (PySem.PyData.keyHash P (PySem.Str.ofString "MAX_INTERPOLATION_DEPTH")) (PySem.Value.str (PySem.Str.ofString "MAX_INTERPOLATION_DEPTH") 190) (PySem.Value.int (10 : Int) 189)), (PySem.DictEntry.mk (PySem.PyData.keyHash P (PySem.Str.ofString "Error")) (PySem.Value.str (PySem.Str.ofString "Error") 228) (PySem.Value.ref 39)), (PySem.DictEntry.mk (PySem.PyData.keyHash P (PySem.Str.ofString "NoSectionError")) (PySem.Value.str (PySem.Str.ofString "NoSectionError") 254) (PySem.Value.ref 59)), (PySem.DictEntry.mk (PySem.PyData.keyHash P (PySem.Str.ofString "DuplicateSectionError")) (PySem.Value.str (PySem.Str.ofString "DuplicateSectionError") 286) (PySem.Value.ref 79)), (PySem.DictEntry.mk (PySem.PyData.keyHash P (PySem.Str.ofString "DuplicateOptionError")) (PySem.Value.str (PySem.Str.ofString "DuplicateOptionError") 320) (PySem.Value.ref 99)), (PySem.DictEntry.mk (PySem.PyData.keyHash P (PySem.Str.ofString "NoOptionError")) (PySem.Value.str (PySem.Str.ofString "NoOptionError") 348) (PySem.Value.ref 118)), (PySem.DictEntry.mk (PySem.PyData.keyHash P (PySem.Str.ofString "InterpolationError")) (PySem.Value.str (PySem.Str.ofString "InterpolationError") 377) (PySem.Value.ref 137))] 16) #[]))
noncomputable abbrev hd.o_171 : PySem.Params → PySem.Obj := (fun (P : PySem.Params) => (PySem.Obj.mk PySem.Value.none (Option.none) (PySem.Data.fields #[(PySem.Value.int (3 : Int) 0), (PySem.Value.int (0 : Int) 0), (PySem.Value.ref 20), (PySem.Value.int (12 : Int) 0), (PySem.Value.int (0 : Int) 0), (PySem.Value.ref 48), (PySem.Value.int (18 : Int) 0), (PySem.Value.int (0 : Int) 0), (PySem.Value.ref 67), (PySem.Value.int (36 : Int) 0), (PySem.Value.int (0 : Int) 0), (PySem.Value.ref 87), (PySem.Value.int (55 : Int) 0), (PySem.Value.int (0 : Int) 0), (PySem.Value.ref 107), (PySem.Value.int (62 : Int) 0), (PySem.Value.int (0 : Int) 0), (PySem.Value.ref 126)]) #[]))
noncomputable abbrev hd.o_172 : PySem.Params → PySem.Obj := (fun (P : PySem.Params) => (PySem.Obj.mk (PySem.Value.type "type") (Option.none) (PySem.Data.cls (PySem.ClassData.mk (PySem.Str.ofString "Error") [(PySem.Value.type "Exception")] [(PySem.Value.ref 39), (PySem.Value.type "Exception"), (PySem.Value.type "BaseException"), (PySem.Value.type "object")] 38 (PySem.Str.ofString "Error") Bool.true ([] : List PySem.Str) [(PySem.Value.ref 59), (PySem.Value.ref 79), (PySem.Value.ref 99), (PySem.Value.ref 118), (PySem.Value.ref 137)] Bool.false (Option.none) Bool.false)) #[(Option.some (PySem.Value.ref 15)), (Option.none), (Option.some (PySem.Value.str (PySem.Str.ofString "Error") 191)), (Option.some (PySem.Value.str (PySem.Str.ofString "Error") 199)), (Option.some (PySem.Value.builtin "Exception.__new__")), (Option.some (PySem.Value.bool Bool.true))]))
noncomputable abbrev hd.o_173 : PySem.Params → PySem.Obj := (fun (P : PySem.Params) => (PySem.Obj.mk (PySem.Value.type "tuple") (Option.none) (PySem.Data.seq #[(PySem.Value.ref 39)] 0) #[]))
noncomputable abbrev hd.o_174 : PySem.Params → PySem.Obj := (fun (P : PySem.Params) => (PySem.Obj.mk (PySem.Value.type "builtin_function_or_method") (Option.none) (PySem.Data.fields #[(PySem.Value.builtin "type.__prepare__"), (PySem.Value.type "type")]) #[]))
noncomputable abbrev hd.o_175 : PySem.Params → PySem.Obj := (fun (P : PySem.Params) => (PySem.Obj.mk (PySem.Value.type "dict") (Option.none) (PySem.Data.dict #[(PySem.DictEntry.mk (PySem.PyData.keyHash P (PySem.Str.ofString "__module__")) (PySem.Value.str (PySem.Str.ofString "__module__") 356) (PySem.Value.str (PySem.Str.ofString "cpy313.configparser") 187)), (PySem.DictEntry.mk (PySem.PyData.keyHash P (PySem.Str.ofString "__qualname__")) (PySem.Value.str (PySem.Str.ofString "__qualname__") 358) (PySem.Value.str (PySem.Str.ofString "InterpolationError") 357)), (PySem.DictEntry.mk (PySem.PyData.keyHash P (PySem.Str.ofString "__firstlineno__")) (PySem.Value.str (PySem.Str.ofString "__firstlineno__") 360) (PySem.Value.int (62 : Int) 359)), (PySem.DictEntry.mk (PySem.PyData.keyHash P (PySem.Str.ofString "__init__")) (PySem.Value.str (PySem.Str.ofString "__init__") 370) (PySem.Value.ref 134)), (PySem.DictEntry.mk (PySem.PyData.keyHash P (PySem.Str.ofString "__static_attributes__")) (PySem.Value.str (PySem.Str.ofString "__static_attributes__") 374) (PySem.Value.ref 135))] 5) #[]))
noncomputable abbrev hd.o_176 : PySem.Params → PySem.Obj := (fun (P : PySem.Params) => (PySem.Obj.mk (PySem.Value.type "tuple") (Option.none) (PySem.Data.seq #[] 0) #[]))
noncomputable abbrev hd.o_177 : PySem.Params → PySem.Obj := (fun (P : PySem.Params) => (PySem.Obj.mk PySem.Value.none (Option.none) (PySem.Data.fields #[(PySem.Value.int (64 : Int) 0), (PySem.Value.int (4 : Int) 0), (PySem.Value.ref 133)]) #[]))
noncomputable abbrev hd.o_178 : PySem.Params → PySem.Obj := (fun (P : PySem.Params) => (PySem.Obj.mk (PySem.Value.type "code") (Option.none) (PySem.Data.fields #[(PySem.Value.str (PySem.Str.ofString "InterpolationError") 351), (PySem.Value.str (PySem.Str.ofString "InterpolationError") 352), (PySem.Value.str (PySem.Str.ofString "/claim/cut.py") 353), (PySem.Value.int (62 : Int) 0), (PySem.Value.int (0 : Int) 0), (PySem.Value.int (0 : Int) 0), (PySem.Value.int (0 : Int) 0), (PySem.Value.int (0 : Int) 0), (PySem.Value.ref 124), (PySem.Value.bool Bool.false), (PySem.Value.int (181 : Int) 0), (PySem.Value.ref 125), PySem.Value.none, PySem.Value.none, PySem.Value.none, PySem.Value.none, (PySem.Value.int (354 : Int) 0), (PySem.Value.int (62 : Int) 0), (PySem.Value.str (PySem.Str.ofString "/claim/cut.py") 355)]) #[]))
noncomputable abbrev hd.o_179 : PySem.Params → PySem.Obj := (fun (P : PySem.Params) => (PySem.Obj.mk (PySem.Value.type "frame") (Option.none) PySem.Data.plain #[(Option.some (PySem.Value.ref 126)), (Option.some (PySem.Value.ref 3)), (Option.some (PySem.Value.ref 123)), (Option.none), (Option.some (PySem.Value.str (PySem.Str.ofString "cpy313.configparser") 187)), (Option.none), (Option.some (PySem.Value.ref 0))]))
noncomputable abbrev hd.o_180 : PySem.Params → PySem.Obj := (fun (P : PySem.Params) => (PySem.Obj.mk (PySem.Value.type "tuple") (Option.none) (PySem.Data.seq #[] 0) #[]))
noncomputable abbrev hd.o_181 : PySem.Params → PySem.Obj := (fun (P : PySem.Params) => (PySem.Obj.mk PySem.Value.none (Option.none) (PySem.Data.fields #[]) #[]))
noncomputable abbrev hd.o_182 : PySem.Params → PySem.Obj := (fun (P : PySem.Params) => (PySem.Obj.mk (PySem.Value.type "tuple") (Option.none) (PySem.Data.seq #[(PySem.Value.str (PySem.Str.ofString "self") 364), (PySem.Value.str (PySem.Str.ofString "option") 365), (PySem.Value.str (PySem.Str.ofString "section") 366), (PySem.Value.str (PySem.Str.ofString "msg") 367)] 0) #[]))
noncomputable abbrev hd.o_183 : PySem.Params → PySem.Obj := (fun (P : PySem.Params) => (PySem.Obj.mk (PySem.Value.type "tuple") (Option.none) (PySem.Data.seq #[] 0) #[]))
noncomputable abbrev hd.o_184 : PySem.Params → PySem.Obj := (fun (P : PySem.Params) => (PySem.Obj.mk PySem.Value.none (Option.none) (PySem.Data.func (PySem.FuncData.mk (PySem.Str.ofString "__init__") (PySem.Str.ofString "InterpolationError.__init__") (fP (sIn 7 0)) (PySem.FuncBody.stmts (fB (sIn 7 0))) (fS (sIn 7 0)) 0 ([] : List (Prod PySem.Str Nat)) PySem.Value.none PySem.Value.none PySem.Value.none PySem.Value.none (Option.none) PySem.Value.none PySem.Value.none 0)) #[]))
noncomputable abbrev hd.o_185 : PySem.Params → PySem.Obj := (fun (P : PySem.Params) => (PySem.Obj.mk (PySem.Value.type "code") (Option.none) (PySem.Data.fields #[(PySem.Value.str (PySem.Str.ofString "__init__") 361), (PySem.Value.str (PySem.Str.ofString "InterpolationError.__init__") 362), (PySem.Value.str (PySem.Str.ofString "/claim/cut.py") 363), (PySem.Value.int (64 : Int) 0), (PySem.Value.int (4 : Int) 0), (PySem.Value.int (0 : Int) 0), (PySem.Value.int (0 : Int) 0), (PySem.Value.int (3 : Int) 0), (PySem.Value.ref 128), (PySem.Value.bool Bool.true), (PySem.Value.int (181 : Int) 0), (PySem.Value.ref 129), PySem.Value.none, (PySem.Value.ref 130), (PySem.Value.ref 131), (PySem.Value.ref 132), (PySem.Value.int (368 : Int) 0), (PySem.Value.int (64 : Int) 0), (PySem.Value.str (PySem.Str.ofString "/claim/cut.py") 369)]) #[]))
noncomputable abbrev hd.o_186 : PySem.Params → PySem.Obj := (fun (P : PySem.Params) => (PySem.Obj.mk (PySem.Value.type "function") (Option.none) (PySem.Data.func (PySem.FuncData.mk (PySem.Str.ofString "__init__") (PySem.Str.ofString "InterpolationError.__init__") (fP (sIn 7 0)) (PySem.FuncBody.stmts (fB (sIn 7 0))) (fS (sIn 7 0)) 3 ([] : List (Prod PySem.Str Nat)) PySem.Value.none PySem.Value.none PySem.Value.none (PySem.Value.str (PySem.Str.ofString "cpy313.configparser") 187) (Option.none) (PySem.Value.ref 133) PySem.Value.none 0)) #[]))
noncomputable abbrev hd.o_187 : PySem.Params → PySem.Obj := (fun (P : PySem.Params) => (PySem.Obj.mk (PySem.Value.type "tuple") (Option.none) (PySem.Data.seq #[(PySem.Value.str (PySem.Str.ofString "args") 371), (PySem.Value.str (PySem.Str.ofString "option") 372), (PySem.Value.str (PySem.Str.ofString "section") 373)] 0) #[]))
noncomputable abbrev hd.o_188 : PySem.Params → PySem.Obj := (fun (P : PySem.Params) => (PySem.Obj.mk (PySem.Value.type "dict") (Option.none) (PySem.Data.dict #[(PySem.DictEntry.mk (PySem.PyData.keyHash P (PySem.Str.ofString "__module__")) (PySem.Value.str (PySem.Str.ofString "__module__") 356) (PySem.Value.str (PySem.Str.ofString "cpy313.configparser") 187)), (PySem.DictEntry.mk (PySem.PyData.keyHash P (PySem.Str.ofString "__firstlineno__")) (PySem.Value.str (PySem.Str.ofString "__firstlineno__") 360) (PySem.Value.int (62 : Int) 359)), (PySem.DictEntry.mk (PySem.PyData.keyHash P (PySem.Str.ofString "__init__")) (PySem.Value.str (PySem.Str.ofString "__init__") 370) (PySem.Value.ref 134)), (PySem.DictEntry.mk (PySem.PyData.keyHash P (PySem.Str.ofString "__static_attributes__")) (PySem.Value.str (PySem.Str.ofString "__static_attributes__") 374) (PySem.Value.ref 135)), (PySem.DictEntry.mk (PySem.PyData.keyHash P (PySem.Str.ofString "__doc__")) (PySem.Value.str (PySem.Str.ofString "__doc__") 375) PySem.Value.none)] 2) #[]))
noncomputable abbrev hd.o_189 : PySem.Params → PySem.Obj := (fun (P : PySem.Params) => (PySem.Obj.mk (PySem.Value.type "type") (Option.none) (PySem.Data.cls (PySem.ClassData.mk (PySem.Str.ofString "InterpolationError") [(PySem.Value.ref 39)] [(PySem.Value.ref 137), (PySem.Value.ref 39), (PySem.Value.type "Exception"), (PySem.Value.type "BaseException"), (PySem.Value.type "object")] 136 (PySem.Str.ofString "InterpolationError") Bool.true ([] : List PySem.Str) ([] : List PySem.Value) Bool.false (Option.none) Bool.false)) #[(Option.some (PySem.Value.ref 121)), (Option.none), (Option.some (PySem.Value.str (PySem.Str.ofString "InterpolationError") 349)), (Option.some (PySem.Value.str (PySem.Str.ofString "InterpolationError") 357)), (Option.some (PySem.Value.builtin "Exception.__new__")), (Option.some (PySem.Value.bool Bool.true))]))
noncomputable abbrev hd.o_190 : PySem.Params → PySem.Obj := (fun (P : PySem.Params) => (PySem.Obj.mk (PySem.Value.type "super") (Option.none) (PySem.Data.fields #[(PySem.Value.ref 137), (PySem.Value.ref 137), (PySem.Value.ref 137)]) #[]))
noncomputable abbrev hd.o_191 : PySem.Params → PySem.Obj := (fun (P : PySem.Params) => (PySem.Obj.mk (PySem.Value.type "builtin_function_or_method") (Option.none) (PySem.Data.fields #[(PySem.Value.builtin "object.__init_subclass__"), (PySem.Value.ref 137)]) #[]))
noncomputable abbrev hd.o_192 : PySem.Params → PySem.Obj := (fun (P : PySem.Params) => (PySem.Obj.mk (PySem.Value.type "dict") (Option.none) (PySem.Data.dict #[(PySem.DictEntry.mk (PySem.PyData.keyHash P (PySem.Str.ofString "__name__")) (PySem.Value.str (PySem.Str.ofString "__name__") 165) (PySem.Value.str (PySem.Str.ofString "cpy313.configparser") 187)), (PySem.DictEntry.mk (PySem.PyData.keyHash P (PySem.Str.ofString "__doc__")) (PySem.Value.str (PySem.Str.ofString "__doc__") 166) PySem.Value.none), (PySem.DictEntry.mk (PySem.PyData.keyHash P (PySem.Str.ofString "__package__")) (PySem.Value.str (PySem.Str.ofString "__package__") 167) PySem.Value.none), (PySem.DictEntry.mk (PySem.PyData.keyHash P (PySem.Str.ofString "__loader__")) (PySem.Value.str (PySem.Str.ofString "__loader__") 168) (PySem.Value.builtin "__main__.__loader__#opaque")), (PySem.DictEntry.mk (PySem.PyData.keyHash P (PySem.Str.ofString "__spec__")) (PySem.Value.str (PySem.Str.ofString "__spec__") 169) PySem.Value.none), (PySem.DictEntry.mk (PySem.PyData.keyHash P (PySem.Str.ofString "__annotations__")) (PySem.Value.str (PySem.Str.ofString "__annotations__") 170) (PySem.Value.ref 6)), (PySem.DictEntry.mk (PySem.PyData.keyHash P (PySem.Str.ofString "__builtins__")) (PySem.Value.str (PySem.Str.ofString "__builtins__") 171) (PySem.Value.ref 4)), (PySem.DictEntry.mk (PySem.PyData.keyHash P (PySem.Str.ofString "__file__")) (PySem.Value.str (PySem.Str.ofString "__file__") 173) (PySem.Value.str (PySem.Str.ofString "/claim/cut.py") 172)), (PySem.DictEntry.mk (PySem.PyData.keyHash P (PySem.Str.ofString "__cached__")) (PySem.Value.str (PySem.Str.ofString "__cached__") 174) PySem.Value.none), (PySem.DictEntry.mk (PySem.PyData.keyHash P (PySem.Str.ofString "MAX_INTERPOLATION_DEPTH")) (PySem.Value.str (PySem.Str.ofString "MAX_INTERPOLATION_DEPTH") 190) (PySem.Value.int (10 : Int) 189)), (PySem.DictEntry.mk (PySem.PyData.keyHash P (PySem.Str.ofString "Error")) (PySem.Value.str (PySem.Str.ofString "Error") 228) (PySem.Value.ref 39)), (PySem.DictEntry.mk (PySem.PyData.keyHash P (PySem.Str.ofString "NoSectionError")) (PySem.Value.str (PySem.Str.ofString "NoSectionError") 254) (PySem.Value.ref 59)), (PySem.DictEntry.mk (PySem.PyData.keyHash P (PySem.Str.ofString "DuplicateSectionError")) (PySem.Value.str (PySem.Str.ofString "DuplicateSectionError") 286) (PySem.Value.ref 79)), (PySem.DictEntry.mk (PySem.PyData.keyHash P (PySem.Str.ofString "DuplicateOptionError")) (PySem.Value.str (PySem.Str.ofString "DuplicateOptionError") 320) (PySem.Value.ref 99)), (PySem.DictEntry.mk (PySem.PyData.keyHash P (PySem.Str.ofString "NoOptionError")) (PySem.Value.str (PySem.Str.ofString "NoOptionError") 348) (PySem.Value.ref 118)), (PySem.DictEntry.mk (PySem.PyData.keyHash P (PySem.Str.ofString "InterpolationError")) (PySem.Value.str (PySem.Str.ofString "InterpolationError") 377) (PySem.Value.ref 137)), (PySem.DictEntry.mk (PySem.PyData.keyHash P (PySem.Str.ofString "InterpolationMissingOptionError")) (PySem.Value.str (PySem.Str.ofString "InterpolationMissingOptionError") 407) (PySem.Value.ref 156))] 17) #[]))
noncomputable abbrev hd.o_193 : PySem.Params → PySem.Obj := (fun (P : PySem.Params) => (PySem.Obj.mk PySem.Value.none (Option.none) (PySem.Data.fields #[(PySem.Value.int (3 : Int) 0), (PySem.Value.int (0 : Int) 0), (PySem.Value.ref 20), (PySem.Value.int (12 : Int) 0), (PySem.Value.int (0 : Int) 0), (PySem.Value.ref 48), (PySem.Value.int (18 : Int) 0), (PySem.Value.int (0 : Int) 0), (PySem.Value.ref 67), (PySem.Value.int (36 : Int) 0), (PySem.Value.int (0 : Int) 0), (PySem.Value.ref 87), (PySem.Value.int (55 : Int) 0), (PySem.Value.int (0 : Int) 0), (PySem.Value.ref 107), (PySem.Value.int (62 : Int) 0), (PySem.Value.int (0 : Int) 0), (PySem.Value.ref 126), (PySem.Value.int (69 : Int) 0), (PySem.Value.int (0 : Int) 0), (PySem.Value.ref 145)]) #[]))
noncomputable abbrev hd.o_194 : PySem.Params → PySem.Obj := (fun (P : PySem.Params) => (PySem.Obj.mk (PySem.Value.type "type") (Option.none) (PySem.Data.cls (PySem.ClassData.mk (PySem.Str.ofString "InterpolationError") [(PySem.Value.ref 39)] [(PySem.Value.ref 137), (PySem.Value.ref 39), (PySem.Value.type "Exception"), (PySem.Value.type "BaseException"), (PySem.Value.type "object")] 136 (PySem.Str.ofString "InterpolationError") Bool.true ([] : List PySem.Str) [(PySem.Value.ref 156)] Bool.false (Option.none) Bool.false)) #[(Option.some (PySem.Value.ref 121)), (Option.none), (Option.some (PySem.Value.str (PySem.Str.ofString "InterpolationError") 349)), (Option.some (PySem.Value.str (PySem.Str.ofString "InterpolationError") 357)), (Option.some (PySem.Value.builtin "Exception.__new__")), (Option.some (PySem.Value.bool Bool.true))]))
noncomputable abbrev hd.o_195 : PySem.Params → PySem.Obj := (fun (P : PySem.Params) => (PySem.Obj.mk (PySem.Value.type "tuple") (Option.none) (PySem.Data.seq #[(PySem.Value.ref 137)] 0) #[]))
noncomputable abbrev hd.o_196 : PySem.Params → PySem.Obj := (fun (P : PySem.Params) => (PySem.Obj.mk (PySem.Value.type "builtin_function_or_method") (Option.none) (PySem.Data.fields #[(PySem.Value.builtin "type.__prepare__"), (PySem.Value.type "type")]) #[]))
noncomputable abbrev hd.o_197 : PySem.Params → PySem.Obj := (fun (P : PySem.Params) => (PySem.Obj.mk (PySem.Value.type "dict") (Option.none) (PySem.Data.dict #[(PySem.DictEntry.mk (PySem.PyData.keyHash P (PySem.Str.ofString "__module__")) (PySem.Value.str (PySem.Str.ofString "__module__") 385) (PySem.Value.str (PySem.Str.ofString "cpy313.configparser") 187)), (PySem.DictEntry.mk (PySem.PyData.keyHash P (PySem.Str.ofString "__qualname__")) (PySem.Value.str (PySem.Str.ofString "__qualname__") 387) (PySem.Value.str (PySem.Str.ofString "InterpolationMissingOptionError") 386)), (PySem.DictEntry.mk (PySem.PyData.keyHash P (PySem.Str.ofString "__firstlineno__")) (PySem.Value.str (PySem.Str.ofString "__firstlineno__") 389) (PySem.Value.int (69 : Int) 388)), (PySem.DictEntry.mk (PySem.PyData.keyHash P (PySem.Str.ofString "__init__")) (PySem.Value.str (PySem.Str.ofString "__init__") 401) (PySem.Value.ref 153)), (PySem.DictEntry.mk (PySem.PyData.keyHash P (PySem.Str.ofString "__static_attributes__")) (PySem.Value.str (PySem.Str.ofString "__static_attributes__") 404) (PySem.Value.ref 154))] 5) #[]))
noncomputable abbrev hd.o_198 : PySem.Params → PySem.Obj := (fun (P : PySem.Params) => (PySem.Obj.mk (PySem.Value.type "tuple") (Option.none) (PySem.Data.seq #[] 0) #[]))
noncomputable abbrev hd.o_199 : PySem.Params → PySem.Obj := (fun (P : PySem.Params) => (PySem.Obj.mk PySem.Value.none (Option.none) (PySem.Data.fields #[(PySem.Value.int (71 : Int) 0), (PySem.Value.int (4 : Int) 0), (PySem.Value.ref 152)]) #[]))
noncomputable abbrev hd.o_200 : PySem.Params → PySem.Obj := (fun (P : PySem.Params) => (PySem.Obj.mk (PySem.Value.type "code") (Option.none) (PySem.Data.fields #[(PySem.Value.str (PySem.Str.ofString "InterpolationMissingOptionError") 380), (PySem.Value.str (PySem.Str.ofString "InterpolationMissingOptionError") 381), (PySem.Value.str (PySem.Str.ofString "/claim/cut.py") 382), (PySem.Value.int (69 : Int) 0), (PySem.Value.int (0 : Int) 0), (PySem.Value.int (0 : Int) 0), (PySem.Value.int (0 : Int) 0), (PySem.Value.int (0 : Int) 0), (PySem.Value.ref 143), (PySem.Value.bool Bool.false), (PySem.Value.int (181 : Int) 0), (PySem.Value.ref 144), PySem.Value.none, PySem.Value.none, PySem.Value.none, PySem.Value.none, (PySem.Value.int (383 : Int) 0), (PySem.Value.int (69 : Int) 0), (PySem.Value.str (PySem.Str.ofString "/claim/cut.py") 384)]) #[]))
noncomputable abbrev hd.o_201 : PySem.Params → PySem.Obj := (fun (P : PySem.Params) => (PySem.Obj.mk (PySem.Value.type "frame") (Option.none) PySem.Data.plain #[(Option.some (PySem.Value.ref 145)), (Option.some (PySem.Value.ref 3)), (Option.some (PySem.Value.ref 142)), (Option.none), (Option.some (PySem.Value.str (PySem.Str.ofString "cpy313.configparser") 187)), (Option.none), (Option.some (PySem.Value.ref 0))]))
noncomputable abbrev hd.o_202 : PySem.Params → PySem.Obj := (fun (P : PySem.Params) => (PySem.Obj.mk (PySem.Value.type "tuple") (Option.none) (PySem.Data.seq #[] 0) #[]))
noncomputable abbrev hd.o_203 : PySem.Params → PySem.Obj := (fun (P : PySem.Params) => (PySem.Obj.mk PySem.Value.none (Option.none) (PySem.Data.fields #[]) #[]))
noncomputable abbrev hd.o_204 : PySem.Params → PySem.Obj := (fun (P : PySem.Params) => (PySem.Obj.mk (PySem.Value.type "tuple") (Option.none) (PySem.Data.seq #[(PySem.Value.str (PySem.Str.ofString "self") 393), (PySem.Value.str (PySem.Str.ofString "option") 394), (PySem.Value.str (PySem.Str.ofString "section") 395), (PySem.Value.str (PySem.Str.ofString "rawval") 396), (PySem.Value.str (PySem.Str.ofString "reference") 397), (PySem.Value.str (PySem.Str.ofString "msg") 398)] 0) #[]))
noncomputable abbrev hd.o_205 : PySem.Params → PySem.Obj := (fun (P : PySem.Params) => (PySem.Obj.mk (PySem.Value.type "tuple") (Option.none) (PySem.Data.seq #[] 0) #[]))
noncomputable abbrev hd.o_206 : PySem.Params → PySem.Obj := (fun (P : PySem.Params) => (PySem.Obj.mk PySem.Value.none (Option.none) (PySem.Data.func (PySem.FuncData.mk (PySem.Str.ofString "__init__") (PySem.Str.ofString "InterpolationMissingOptionError.__init__") (fP (sIn 8 0)) (PySem.FuncBody.stmts (fB (sIn 8 0))) (fS (sIn 8 0)) 0 ([] : List (Prod PySem.Str Nat)) PySem.Value.none PySem.Value.none PySem.Value.none PySem.Value.none (Option.none) PySem.Value.none PySem.Value.none 0)) #[]))
noncomputable abbrev hd.o_207 : PySem.Params → PySem.Obj := (fun (P : PySem.Params) => (PySem.Obj.mk (PySem.Value.type "code") (Option.none) (PySem.Data.fields #[(PySem.Value.str (PySem.Str.ofString "__init__") 390), (PySem.Value.str (PySem.Str.ofString "InterpolationMissingOptionError.__init__") 391), (PySem.Value.str (PySem.Str.ofString "/claim/cut.py") 392), (PySem.Value.int (71 : Int) 0), (PySem.Value.int (5 : Int) 0), (PySem.Value.int (0 : Int) 0), (PySem.Value.int (0 : Int) 0), (PySem.Value.int (3 : Int) 0), (PySem.Value.ref 147), (PySem.Value.bool Bool.true), (PySem.Value.int (181 : Int) 0), (PySem.Value.ref 148), PySem.Value.none, (PySem.Value.ref 149), (PySem.Value.ref 150), (PySem.Value.ref 151), (PySem.Value.int (399 : Int) 0), (PySem.Value.int (71 : Int) 0), (PySem.Value.str (PySem.Str.ofString "/claim/cut.py") 400)]) #[]))
noncomputable abbrev hd.o_208 : PySem.Params → PySem.Obj := (fun (P : PySem.Params) => (PySem.Obj.mk (PySem.Value.type "function") (Option.none) (PySem.Data.func (PySem.FuncData.mk (PySem.Str.ofString "__init__") (PySem.Str.ofString "InterpolationMissingOptionError.__init__") (fP (sIn 8 0)) (PySem.FuncBody.stmts (fB (sIn 8 0))) (fS (sIn 8 0)) 3 ([] : List (Prod PySem.Str Nat)) PySem.Value.none PySem.Value.none PySem.Value.none (PySem.Value.str (PySem.Str.ofString "cpy313.configparser") 187) (Option.none) (PySem.Value.ref 152) PySem.Value.none 0)) #[]))
noncomputable abbrev hd.o_209 : PySem.Params → PySem.Obj := (fun (P : PySem.Params) => (PySem.Obj.mk (PySem.Value.type "tuple") (Option.none) (PySem.Data.seq #[(PySem.Value.str (PySem.Str.ofString "args") 402), (PySem.Value.str (PySem.Str.ofString "reference") 403)] 0) #[]))
noncomputable abbrev hd.o_210 : PySem.Params → PySem.Obj := (fun (P : PySem.Params) => (PySem.Obj.mk (PySem.Value.type "dict") (Option.none) (PySem.Data.dict #[(PySem.DictEntry.mk (PySem.PyData.keyHash P (PySem.Str.ofString "__module__")) (PySem.Value.str (PySem.Str.ofString "__module__") 385) (PySem.Value.str (PySem.Str.ofString "cpy313.configparser") 187)), (PySem.DictEntry.mk (PySem.PyData.keyHash P (PySem.Str.ofString "__firstlineno__")) (PySem.Value.str (PySem.Str.ofString "__firstlineno__") 389) (PySem.Value.int (69 : Int) 388)), (PySem.DictEntry.mk (PySem.PyData.keyHash P (PySem.Str.ofString "__init__")) (PySem.Value.str (PySem.Str.ofString "__init__") 401) (PySem.Value.ref 153)), (PySem.DictEntry.mk (PySem.PyData.keyHash P (PySem.Str.ofString "__static_attributes__")) (PySem.Value.str (PySem.Str.ofString "__static_attributes__") 404) (PySem.Value.ref 154)), (PySem.DictEntry.mk (PySem.PyData.keyHash P (PySem.Str.ofString "__doc__")) (PySem.Value.str (PySem.Str.ofString "__doc__") 405) PySem.Value.none)] 2) #[]))
noncomputable abbrev hd.o_211 : PySem.Params → PySem.Obj := (fun (P : PySem.Params) => (PySem.Obj.mk (PySem.Value.type "type") (Option.none) (PySem.Data.cls (PySem.ClassData.mk (PySem.Str.ofString "InterpolationMissingOptionError") [(PySem.Value.ref 137)] [(PySem.Value.ref 156), (PySem.Value.ref 137), (PySem.Value.ref 39), (PySem.Value.type "Exception"), (PySem.Value.type "BaseException"), (PySem.Value.type "object")] 155 (PySem.Str.ofString "InterpolationMissingOptionError") Bool.true ([] : List PySem.Str) ([] : List PySem.Value) Bool.false (Option.none) Bool.false)) #[(Option.some (PySem.Value.ref 140)), (Option.none), (Option.some (PySem.Value.str (PySem.Str.ofString "InterpolationMissingOptionError") 378)), (Option.some (PySem.Value.str (PySem.Str.ofString "InterpolationMissingOptionError") 386)), (Option.some (PySem.Value.builtin "Exception.__new__")), (Option.some (PySem.Value.bool Bool.true))]))
noncomputable abbrev hd.o_212 : PySem.Params → PySem.Obj := (fun (P : PySem.Params) => (PySem.Obj.mk (PySem.Value.type "super") (Option.none) (PySem.Data.fields #[(PySem.Value.ref 156), (PySem.Value.ref 156), (PySem.Value.ref 156)]) #[]))
noncomputable abbrev hd.o_213 : PySem.Params → PySem.Obj := (fun (P : PySem.Params) => (PySem.Obj.mk (PySem.Value.type "builtin_function_or_method") (Option.none) (PySem.Data.fields #[(PySem.Value.builtin "object.__init_subclass__"), (PySem.Value.ref 156)]) #[]))
noncomputable abbrev hd.o_214 : PySem.Params → PySem.Obj := (fun (P : PySem.Params) => (PySem.Obj.mk (PySem.Value.type "dict") (Option.none) (PySem.Data.dict #[(PySem.DictEntry.mk (PySem.PyData.keyHash P (PySem.Str.ofString "__name__")) (PySem.Value.str (PySem.Str.ofString "__name__") 165) (PySem.Value.str (PySem.Str.ofString "cpy313.configparser") 187)), (PySem.DictEntry.mk (PySem.PyData.keyHash P (PySem.Str.ofString "__doc__")) (PySem.Value.str (PySem.Str.ofString "__doc__") 166) PySem.Value.none), (PySem.DictEntry.mk (PySem.PyData.keyHash P (PySem.Str.ofString "__package__")) (PySem.Value.str (PySem.Str.ofString "__package__") 167) PySem.Value.none), (PySem.DictEntry.mk (PySem.PyData.keyHash P (PySem.Str.ofString "__loader__")) (PySem.Value.str (PySem.Str.ofString "__loader__") 168) (PySem.Value.builtin "__main__.__loader__#opaque")), (PySem.DictEntry.mk (PySem.PyData.keyHash P (PySem.Str.ofString "__spec__")) (PySem.Value.str (PySem.Str.ofString "__spec__") 169) PySem.Value.none), (PySem.DictEntry.mk (PySem.PyData.keyHash P (PySem.Str.ofString "__annotations__")) (PySem.Value.str (PySem.Str.ofString "__annotations__") 170) (PySem.Value.ref 6)), (PySem.DictEntry.mk (PySem.PyData.keyHash P (PySem.Str.ofString "__builtins__")) (PySem.Value.str (PySem.Str.ofString "__builtins__") 171) (PySem.Value.ref 4)), (PySem.DictEntry.mk (PySem.PyData.keyHash P (PySem.Str.ofString "__file__")) (PySem.Value.str (PySem.Str.ofString "__file__") 173) (PySem.Value.str (PySem.Str.ofString "/claim/cut.py") 172)), (PySem.DictEntry.mk (PySem.PyData.keyHash P (PySem.Str.ofString "__cached__")) (PySem.Value.str (PySem.Str.ofString "__cached__") 174) PySem.Value.none), (PySem.DictEntry.mk (PySem.PyData.keyHash P (PySem.Str.ofString "MAX_INTERPOLATION_DEPTH")) (PySem.Value.str (PySem.Str.ofString "MAX_INTERPOLATION_DEPTH") 190) (PySem.Value.int (10 : Int) 189)), (PySem.DictEntry.mk (PySem.PyData.keyHash P (PySem.Str.ofString "Error")) (PySem.Value.str (PySem.Str.ofString "Error") 228) (PySem.Value.ref 39)), (PySem.DictEntry.mk (PySem.PyData.keyHash P (PySem.Str.ofString "NoSectionError")) (PySem.Value.str (PySem.Str.ofString "NoSectionError") 254) (PySem.Value.ref 59)), (PySem.DictEntry.mk (PySem.PyData.keyHash P (PySem.Str.ofString "DuplicateSectionError")) (PySem.Value.str (PySem.Str.ofString "DuplicateSectionError") 286) (PySem.Value.ref 79)), (PySem.DictEntry.mk (PySem.PyData.keyHash P (PySem.Str.ofString "DuplicateOptionError")) (PySem.Value.str (PySem.Str.ofString "DuplicateOptionError") 320) (PySem.Value.ref 99)), (PySem.DictEntry.mk (PySem.PyData.keyHash P (PySem.Str.ofString "NoOptionError")) (PySem.Value.str (PySem.Str.ofString "NoOptionError") 348) (PySem.Value.ref 118)), (PySem.DictEntry.mk (PySem.PyData.keyHash P (PySem.Str.ofString "InterpolationError")) (PySem.Value.str (PySem.Str.ofString "InterpolationError") 377) (PySem.Value.ref 137)), (PySem.DictEntry.mk (PySem.PyData.keyHash P (PySem.Str.ofString "InterpolationMissingOptionError")) (PySem.Value.str (PySem.Str.ofString "InterpolationMissingOptionError") 407) (PySem.Value.ref 156)), (PySem.DictEntry.mk (PySem.PyData.keyHash P (PySem.Str.ofString "InterpolationSyntaxError")) (PySem.Value.str (PySem.Str.ofString "InterpolationSyntaxError") 423) (PySem.Value.ref 168))] 18) #[]))
noncomputable abbrev hd.o_215 : PySem.Params → PySem.Obj := (fun (P : PySem.Params) => (PySem.Obj.mk PySem.Value.none (Option.none) (PySem.Data.fields #[(PySem.Value.int (3 : Int) 0), (PySem.Value.int (0 : Int) 0), (PySem.Value.ref 20), (PySem.Value.int (12 : Int) 0), (PySem.Value.int (0 : Int) 0), (PySem.Value.ref 48), (PySem.Value.int (18 : Int) 0), (PySem.Value.int (0 : Int) 0), (PySem.Value.ref 67), (PySem.Value.int (36 : Int) 0), (PySem.Value.int (0 : Int) 0), (PySem.Value.ref 87), (PySem.Value.int (55 : Int) 0), (PySem.Value.int (0 : Int) 0), (PySem.Value.ref 107), (PySem.Value.int (62 : Int) 0), (PySem.Value.int (0 : Int) 0), (PySem.Value.ref 126), (PySem.Value.int (69 : Int) 0), (PySem.Value.int (0 : Int) 0), (PySem.Value.ref 145), (PySem.Value.int (76 : Int) 0), (PySem.Value.int (0 : Int) 0), (PySem.Value.ref 164)]) #[]))
noncomputable abbrev hd.o_216 : PySem.Params → PySem.Obj := (fun (P : PySem.Params) => (PySem.Obj.mk (PySem.Value.type "type") (Option.none) (PySem.Data.cls (PySem.ClassData.mk (PySem.Str.ofString "InterpolationError") [(PySem.Value.ref 39)] [(PySem.Value.ref 137), (PySem.Value.ref 39), (PySem.Value.type "Exception"), (PySem.Value.type "BaseException"), (PySem.Value.type "object")] 136 (PySem.Str.ofString "InterpolationError") Bool.true ([] : List PySem.Str) [(PySem.Value.ref 156), (PySem.Value.ref 168)] Bool.false (Option.none) Bool.false)) #[(Option.some (PySem.Value.ref 121)), (Option.none), (Option.some (PySem.Value.str (PySem.Str.ofString "InterpolationError") 349)), (Option.some (PySem.Value.str (PySem.Str.ofString "InterpolationError") 357)), (Option.some (PySem.Value.builtin "Exception.__new__")), (Option.some (PySem.Value.bool Bool.true))]))
noncomputable abbrev hd.o_217 : PySem.Params → PySem.Obj := (fun (P : PySem.Params) => (PySem.Obj.mk (PySem.Value.type "tuple") (Option.none) (PySem.Data.seq #[(PySem.Value.ref 137)] 0) #[]))
noncomputable abbrev hd.o_218 : PySem.Params → PySem.Obj := (fun (P : PySem.Params) => (PySem.Obj.mk (PySem.Value.type "builtin_function_or_method") (Option.none) (PySem.Data.fields #[(PySem.Value.builtin "type.__prepare__"), (PySem.Value.type "type")]) #[]))
noncomputable abbrev hd.o_219 : PySem.Params → PySem.Obj := (fun (P : PySem.Params) => (PySem.Obj.mk (PySem.Value.type "dict") (Option.none) (PySem.Data.dict #[(PySem.DictEntry.mk (PySem.PyData.keyHash P (PySem.Str.ofString "__module__")) (PySem.Value.str (PySem.Str.ofString "__module__") 415) (PySem.Value.str (PySem.Str.ofString "cpy313.configparser") 187)), (PySem.DictEntry.mk (PySem.PyData.keyHash P (PySem.Str.ofString "__qualname__")) (PySem.Value.str (PySem.Str.ofString "__qualname__") 417) (PySem.Value.str (PySem.Str.ofString "InterpolationSyntaxError") 416)), (PySem.DictEntry.mk (PySem.PyData.keyHash P (PySem.Str.ofString "__firstlineno__")) (PySem.Value.str (PySem.Str.ofString "__firstlineno__") 419) (PySem.Value.int (76 : Int) 418)), (PySem.DictEntry.mk (PySem.PyData.keyHash P (PySem.Str.ofString "__static_attributes__")) (PySem.Value.str (PySem.Str.ofString "__static_attributes__") 420) (PySem.Value.ref 166))] 4) #[]))
noncomputable abbrev hd.o_220 : PySem.Params → PySem.Obj := (fun (P : PySem.Params) => (PySem.Obj.mk (PySem.Value.type "tuple") (Option.none) (PySem.Data.seq #[] 0) #[]))
noncomputable abbrev hd.o_221 : PySem.Params → PySem.Obj := (fun (P : PySem.Params) => (PySem.Obj.mk PySem.Value.none (Option.none) (PySem.Data.fields #[]) #[]))
noncomputable abbrev hd.o_222 : PySem.Params → PySem.Obj := (fun (P : PySem.Params) => (PySem.Obj.mk (PySem.Value.type "code") (Option.none) (PySem.Data.fields #[(PySem.Value.str (PySem.Str.ofString "InterpolationSyntaxError") 410), (PySem.Value.str (PySem.Str.ofString "InterpolationSyntaxError") 411), (PySem.Value.str (PySem.Str.ofString "/claim/cut.py") 412), (PySem.Value.int (76 : Int) 0), (PySem.Value.int (0 : Int) 0), (PySem.Value.int (0 : Int) 0), (PySem.Value.int (0 : Int) 0), (PySem.Value.int (0 : Int) 0), (PySem.Value.ref 162), (PySem.Value.bool Bool.false), (PySem.Value.int (181 : Int) 0), (PySem.Value.ref 163), PySem.Value.none, PySem.Value.none, PySem.Value.none, PySem.Value.none, (PySem.Value.int (413 : Int) 0), (PySem.Value.int (76 : Int) 0), (PySem.Value.str (PySem.Str.ofString "/claim/cut.py") 414)]) #[]))
noncomputable abbrev hd.o_223 : PySem.Params → PySem.Obj := (fun (P : PySem.Params) => (PySem.Obj.mk (PySem.Value.type "frame") (Option.none) PySem.Data.plain #[(Option.some (PySem.Value.ref 164)), (Option.some (PySem.Value.ref 3)), (Option.some (PySem.Value.ref 161)), (Option.none), (Option.some (PySem.Value.str (PySem.Str.ofString "cpy313.configparser") 187)), (Option.none), (Option.some (PySem.Value.ref 0))]))
noncomputable abbrev hd.o_224 : PySem.Params → PySem.Obj := (fun (P : PySem.Params) => (PySem.Obj.mk (PySem.Value.type "tuple") (Option.none) (PySem.Data.seq #[] 0) #[]))
noncomputable abbrev hd.o_225 : PySem.Params → PySem.Obj := (fun (P : PySem.Params) => (PySem.Obj.mk (PySem.Value.type "dict") (Option.none) (PySem.Data.dict #[(PySem.DictEntry.mk (PySem.PyData.keyHash P (PySem.Str.ofString "__module__")) (PySem.Value.str (PySem.Str.ofString "__module__") 415) (PySem.Value.str (PySem.Str.ofString "cpy313.configparser") 187)), (PySem.DictEntry.mk (PySem.PyData.keyHash P (PySem.Str.ofString "__firstlineno__")) (PySem.Value.str (PySem.Str.ofString "__firstlineno__") 419) (PySem.Value.int (76 : Int) 418)), (PySem.DictEntry.mk (PySem.PyData.keyHash P (PySem.Str.ofString "__static_attributes__")) (PySem.Value.str (PySem.Str.ofString "__static_attributes__") 420) (PySem.Value.ref 166)), (PySem.DictEntry.mk (PySem.PyData.keyHash P (PySem.Str.ofString "__doc__")) (PySem.Value.str (PySem.Str.ofString "__doc__") 421) PySem.Value.none)] 2) #[]))
noncomputable abbrev hd.o_226 : PySem.Params → PySem.Obj := (fun (P : PySem.Params) => (PySem.Obj.mk (PySem.Value.type "type") (Option.none) (PySem.Data.cls (PySem.ClassData.mk (PySem.Str.ofString "InterpolationSyntaxError") [(PySem.Value.ref 137)] [(PySem.Value.ref 168), (PySem.Value.ref 137), (PySem.Value.ref 39), (PySem.Value.type "Exception"), (PySem.Value.type "BaseException"), (PySem.Value.type "object")] 167 (PySem.Str.ofString "InterpolationSyntaxError") Bool.true ([] : List PySem.Str) ([] : List PySem.Value) Bool.false (Option.none) Bool.false)) #[(Option.some (PySem.Value.ref 159)), (Option.none), (Option.some (PySem.Value.str (PySem.Str.ofString "InterpolationSyntaxError") 408)), (Option.some (PySem.Value.str (PySem.Str.ofString "InterpolationSyntaxError") 416)), (Option.some (PySem.Value.builtin "Exception.__new__")), (Option.some (PySem.Value.bool Bool.true))]))
noncomputable abbrev hd.o_227 : PySem.Params → PySem.Obj := (fun (P : PySem.Params) => (PySem.Obj.mk (PySem.Value.type "super") (Option.none) (PySem.Data.fields #[(PySem.Value.ref 168), (PySem.Value.ref 168), (PySem.Value.ref 168)]) #[]))
noncomputable abbrev hd.o_228 : PySem.Params → PySem.Obj := (fun (P : PySem.Params) => (PySem.Obj.mk (PySem.Value.type "builtin_function_or_method") (Option.none) (PySem.Data.fields #[(PySem.Value.builtin "object.__init_subclass__"), (PySem.Value.ref 168)]) #[]))
noncomputable abbrev hd.o_229 : PySem.Params → PySem.Obj := (fun (P : PySem.Params) => (PySem.Obj.mk (PySem.Value.type "dict") (Option.none) (PySem.Data.dict #[(PySem.DictEntry.mk (PySem.PyData.keyHash P (PySem.Str.ofString "__name__")) (PySem.Value.str (PySem.Str.ofString "__name__") 165) (PySem.Value.str (PySem.Str.ofString "law_dv0002_02") 452)), (PySem.DictEntry.mk (PySem.PyData.keyHash P (PySem.Str.ofString "__doc__")) (PySem.Value.str (PySem.Str.ofString "__doc__") 166) PySem.Value.none), (PySem.DictEntry.mk (PySem.PyData.keyHash P (PySem.Str.ofString "__package__")) (PySem.Value.str (PySem.Str.ofString "__package__") 167) PySem.Value.none), (PySem.DictEntry.mk (PySem.PyData.keyHash P (PySem.Str.ofString "__loader__")) (PySem.Value.str (PySem.Str.ofString "__loader__") 168) (PySem.Value.builtin "__main__.__loader__#opaque")), (PySem.DictEntry.mk (PySem.PyData.keyHash P (PySem.Str.ofString "__spec__")) (PySem.Value.str (PySem.Str.ofString "__spec__") 169) PySem.Value.none), (PySem.DictEntry.mk (PySem.PyData.keyHash P (PySem.Str.ofString "__annotations__")) (PySem.Value.str (PySem.Str.ofString "__annotations__") 170) (PySem.Value.ref 6)), (PySem.DictEntry.mk (PySem.PyData.keyHash P (PySem.Str.ofString "__builtins__")) (PySem.Value.str (PySem.Str.ofString "__builtins__") 171) (PySem.Value.ref 4)), (PySem.DictEntry.mk (PySem.PyData.keyHash P (PySem.Str.ofString "__file__")) (PySem.Value.str (PySem.Str.ofString "__file__") 173) (PySem.Value.str (PySem.Str.ofString "/claim/cut.py") 172)), (PySem.DictEntry.mk (PySem.PyData.keyHash P (PySem.Str.ofString "__cached__")) (PySem.Value.str (PySem.Str.ofString "__cached__") 174) PySem.Value.none), (PySem.DictEntry.mk (PySem.PyData.keyHash P (PySem.Str.ofString "MAX_INTERPOLATION_DEPTH")) (PySem.Value.str (PySem.Str.ofString "MAX_INTERPOLATION_DEPTH") 190) (PySem.Value.int (10 : Int) 189)), (PySem.DictEntry.mk (PySem.PyData.keyHash P (PySem.Str.ofString "Error")) (PySem.Value.str (PySem.Str.ofString "Error") 228) (PySem.Value.ref 39)), (PySem.DictEntry.mk (PySem.PyData.keyHash P (PySem.Str.ofString "NoSectionError")) (PySem.Value.str (PySem.Str.ofString "NoSectionError") 254) (PySem.Value.ref 59)), (PySem.DictEntry.mk (PySem.PyData.keyHash P (PySem.Str.ofString "DuplicateSectionError")) (PySem.Value.str (PySem.Str.ofString "DuplicateSectionError") 286) (PySem.Value.ref 79)), (PySem.DictEntry.mk (PySem.PyData.keyHash P (PySem.Str.ofString "DuplicateOptionError")) (PySem.Value.str (PySem.Str.ofString "DuplicateOptionError") 320) (PySem.Value.ref 99)), (PySem.DictEntry.mk (PySem.PyData.keyHash P (PySem.Str.ofString "NoOptionError")) (PySem.Value.str (PySem.Str.ofString "NoOptionError") 348) (PySem.Value.ref 118)), (PySem.DictEntry.mk (PySem.PyData.keyHash P (PySem.Str.ofString "InterpolationError")) (PySem.Value.str (PySem.Str.ofString "InterpolationError") 377) (PySem.Value.ref 137)), (PySem.DictEntry.mk (PySem.PyData.keyHash P (PySem.Str.ofString "InterpolationMissingOptionError")) (PySem.Value.str (PySem.Str.ofString "InterpolationMissingOptionError") 407) (PySem.Value.ref 156)), (PySem.DictEntry.mk (PySem.PyData.keyHash P (PySem.Str.ofString "InterpolationSyntaxError")) (PySem.Value.str (PySem.Str.ofString "InterpolationSyntaxError") 423) (PySem.Value.ref 168)), (PySem.DictEntry.mk (PySem.PyData.keyHash P (PySem.Str.ofString "InterpolationDepthError")) (PySem.Value.str (PySem.Str.ofString "InterpolationDepthError") 451) (PySem.Value.ref 187)), (PySem.DictEntry.mk (PySem.PyData.keyHash P (PySem.Str.ofString "_law_error")) (PySem.Value.str (PySem.Str.ofString "_law_error") 460) (PySem.Value.ref 196)), (PySem.DictEntry.mk (PySem.PyData.keyHash P (PySem.Str.ofString "_law_on")) (PySem.Value.str (PySem.Str.ofString "_law_on") 469) (PySem.Value.ref 203)), (PySem.DictEntry.mk (PySem.PyData.keyHash P (PySem.Str.ofString "_law_through")) (PySem.Value.str (PySem.Str.ofString "_law_through") 481) (PySem.Value.ref 210)), (PySem.DictEntry.mk (PySem.PyData.keyHash P (PySem.Str.ofString "_law_words")) (PySem.Value.str (PySem.Str.ofString "_law_words") 488) (PySem.Value.ref 217))] 23) #[]))
noncomputable abbrev hd.o_230 : PySem.Params → PySem.Obj := (fun (P : PySem.Params) => (PySem.Obj.mk PySem.Value.none (Option.none) (PySem.Data.fields #[(PySem.Value.int (3 : Int) 0), (PySem.Value.int (0 : Int) 0), (PySem.Value.ref 20), (PySem.Value.int (12 : Int) 0), (PySem.Value.int (0 : Int) 0), (PySem.Value.ref 48), (PySem.Value.int (18 : Int) 0), (PySem.Value.int (0 : Int) 0), (PySem.Value.ref 67), (PySem.Value.int (36 : Int) 0), (PySem.Value.int (0 : Int) 0), (PySem.Value.ref 87), (PySem.Value.int (55 : Int) 0), (PySem.Value.int (0 : Int) 0), (PySem.Value.ref 107), (PySem.Value.int (62 : Int) 0), (PySem.Value.int (0 : Int) 0), (PySem.Value.ref 126), (PySem.Value.int (69 : Int) 0), (PySem.Value.int (0 : Int) 0), (PySem.Value.ref 145), (PySem.Value.int (76 : Int) 0), (PySem.Value.int (0 : Int) 0), (PySem.Value.ref 164), (PySem.Value.int (78 : Int) 0), (PySem.Value.int (0 : Int) 0), (PySem.Value.ref 176), (PySem.Value.int (85 : Int) 0), (PySem.Value.int (0 : Int) 0), (PySem.Value.ref 195), (PySem.Value.int (103 : Int) 0), (PySem.Value.int (0 : Int) 0), (PySem.Value.ref 202), (PySem.Value.int (106 : Int) 0), (PySem.Value.int (0 : Int) 0), (PySem.Value.ref 209), (PySem.Value.int (176 : Int) 0), (PySem.Value.int (0 : Int) 0), (PySem.Value.ref 216)]) #[]))
noncomputable abbrev hd.o_231 : PySem.Params → PySem.Obj := (fun (P : PySem.Params) => (PySem.Obj.mk (PySem.Value.type "type") (Option.none) (PySem.Data.cls (PySem.ClassData.mk (PySem.Str.ofString "InterpolationError") [(PySem.Value.ref 39)] [(PySem.Value.ref 137), (PySem.Value.ref 39), (PySem.Value.type "Exception"), (PySem.Value.type "BaseException"), (PySem.Value.type "object")] 136 (PySem.Str.ofString "InterpolationError") Bool.true ([] : List PySem.Str) [(PySem.Value.ref 156), (PySem.Value.ref 168), (PySem.Value.ref 187)] Bool.false (Option.none) Bool.false)) #[(Option.some (PySem.Value.ref 121)), (Option.none), (Option.some (PySem.Value.str (PySem.Str.ofString "InterpolationError") 349)), (Option.some (PySem.Value.str (PySem.Str.ofString "InterpolationError") 357)), (Option.some (PySem.Value.builtin "Exception.__new__")), (Option.some (PySem.Value.bool Bool.true))]))
noncomputable abbrev hd.o_232 : PySem.Params → PySem.Obj := (fun (P : PySem.Params) => (PySem.Obj.mk (PySem.Value.type "tuple") (Option.none) (PySem.Data.seq #[(PySem.Value.ref 137)] 0) #[]))
noncomputable abbrev hd.o_233 : PySem.Params → PySem.Obj := (fun (P : PySem.Params) => (PySem.Obj.mk (PySem.Value.type "builtin_function_or_method") (Option.none) (PySem.Data.fields #[(PySem.Value.builtin "type.__prepare__"), (PySem.Value.type "type")]) #[]))
noncomputable abbrev hd.o_234 : PySem.Params → PySem.Obj := (fun (P : PySem.Params) => (PySem.Obj.mk (PySem.Value.type "dict") (Option.none) (PySem.Data.dict #[(PySem.DictEntry.mk (PySem.PyData.keyHash P (PySem.Str.ofString "__module__")) (PySem.Value.str (PySem.Str.ofString "__module__") 431) (PySem.Value.str (PySem.Str.ofString "cpy313.configparser") 187)), (PySem.DictEntry.mk (PySem.PyData.keyHash P (PySem.Str.ofString "__qualname__")) (PySem.Value.str (PySem.Str.ofString "__qualname__") 433) (PySem.Value.str (PySem.Str.ofString "InterpolationDepthError") 432)), (PySem.DictEntry.mk (PySem.PyData.keyHash P (PySem.Str.ofString "__firstlineno__")) (PySem.Value.str (PySem.Str.ofString "__firstlineno__") 435) (PySem.Value.int (78 : Int) 434)), (PySem.DictEntry.mk (PySem.PyData.keyHash P (PySem.Str.ofString "__init__")) (PySem.Value.str (PySem.Str.ofString "__init__") 446) (PySem.Value.ref 184)), (PySem.DictEntry.mk (PySem.PyData.keyHash P (PySem.Str.ofString "__static_attributes__")) (PySem.Value.str (PySem.Str.ofString "__static_attributes__") 448) (PySem.Value.ref 185))] 5) #[]))
noncomputable abbrev hd.o_235 : PySem.Params → PySem.Obj := (fun (P : PySem.Params) => (PySem.Obj.mk (PySem.Value.type "tuple") (Option.none) (PySem.Data.seq #[] 0) #[]))
noncomputable abbrev hd.o_236 : PySem.Params → PySem.Obj := (fun (P : PySem.Params) => (PySem.Obj.mk PySem.Value.none (Option.none) (PySem.Data.fields #[(PySem.Value.int (80 : Int) 0), (PySem.Value.int (4 : Int) 0), (PySem.Value.ref 183)]) #[]))
noncomputable abbrev hd.o_237 : PySem.Params → PySem.Obj := (fun (P : PySem.Params) => (PySem.Obj.mk (PySem.Value.type "code") (Option.none) (PySem.Data.fields #[(PySem.Value.str (PySem.Str.ofString "InterpolationDepthError") 426), (PySem.Value.str (PySem.Str.ofString "InterpolationDepthError") 427), (PySem.Value.str (PySem.Str.ofString "/claim/cut.py") 428), (PySem.Value.int (78 : Int) 0), (PySem.Value.int (0 : Int) 0), (PySem.Value.int (0 : Int) 0), (PySem.Value.int (0 : Int) 0), (PySem.Value.int (0 : Int) 0), (PySem.Value.ref 174), (PySem.Value.bool Bool.false), (PySem.Value.int (181 : Int) 0), (PySem.Value.ref 175), PySem.Value.none, PySem.Value.none, PySem.Value.none, PySem.Value.none, (PySem.Value.int (429 : Int) 0), (PySem.Value.int (78 : Int) 0), (PySem.Value.str (PySem.Str.ofString "/claim/cut.py") 430)]) #[]))
noncomputable abbrev hd.o_238 : PySem.Params → PySem.Obj := (fun (P : PySem.Params) => (PySem.Obj.mk (PySem.Value.type "frame") (Option.none) PySem.Data.plain #[(Option.some (PySem.Value.ref 176)), (Option.some (PySem.Value.ref 3)), (Option.some (PySem.Value.ref 173)), (Option.none), (Option.some (PySem.Value.str (PySem.Str.ofString "cpy313.configparser") 187)), (Option.none), (Option.some (PySem.Value.ref 0))]))
noncomputable abbrev hd.o_239 : PySem.Params → PySem.Obj := (fun (P : PySem.Params) => (PySem.Obj.mk (PySem.Value.type "tuple") (Option.none) (PySem.Data.seq #[] 0) #[]))
noncomputable abbrev hd.o_240 : PySem.Params → PySem.Obj := (fun (P : PySem.Params) => (PySem.Obj.mk PySem.Value.none (Option.none) (PySem.Data.fields #[]) #[]))
noncomputable abbrev hd.o_241 : PySem.Params → PySem.Obj := (fun (P : PySem.Params) => (PySem.Obj.mk (PySem.Value.type "tuple") (Option.none) (PySem.Data.seq #[(PySem.Value.str (PySem.Str.ofString "self") 439), (PySem.Value.str (PySem.Str.ofString "option") 440), (PySem.Value.str (PySem.Str.ofString "section") 441), (PySem.Value.str (PySem.Str.ofString "rawval") 442), (PySem.Value.str (PySem.Str.ofString "msg") 443)] 0) #[]))
noncomputable abbrev hd.o_242 : PySem.Params → PySem.Obj := (fun (P : PySem.Params) => (PySem.Obj.mk (PySem.Value.type "tuple") (Option.none) (PySem.Data.seq #[] 0) #[]))
noncomputable abbrev hd.o_243 : PySem.Params → PySem.Obj := (fun (P : PySem.Params) => (PySem.Obj.mk PySem.Value.none (Option.none) (PySem.Data.func (PySem.FuncData.mk (PySem.Str.ofString "__init__") (PySem.Str.ofString "InterpolationDepthError.__init__") (fP (sIn 10 0)) (PySem.FuncBody.stmts (fB (sIn 10 0))) (fS (sIn 10 0)) 0 ([] : List (Prod PySem.Str Nat)) PySem.Value.none PySem.Value.none PySem.Value.none PySem.Value.none (Option.none) PySem.Value.none PySem.Value.none 0)) #[]))
noncomputable abbrev hd.o_244 : PySem.Params → PySem.Obj := (fun (P : PySem.Params) => (PySem.Obj.mk (PySem.Value.type "code") (Option.none) (PySem.Data.fields #[(PySem.Value.str (PySem.Str.ofString "__init__") 436), (PySem.Value.str (PySem.Str.ofString "InterpolationDepthError.__init__") 437), (PySem.Value.str (PySem.Str.ofString "/claim/cut.py") 438), (PySem.Value.int (80 : Int) 0), (PySem.Value.int (4 : Int) 0), (PySem.Value.int (0 : Int) 0), (PySem.Value.int (0 : Int) 0), (PySem.Value.int (3 : Int) 0), (PySem.Value.ref 178), (PySem.Value.bool Bool.true), (PySem.Value.int (181 : Int) 0), (PySem.Value.ref 179), PySem.Value.none, (PySem.Value.ref 180), (PySem.Value.ref 181), (PySem.Value.ref 182), (PySem.Value.int (444 : Int) 0), (PySem.Value.int (80 : Int) 0), (PySem.Value.str (PySem.Str.ofString "/claim/cut.py") 445)]) #[]))
noncomputable abbrev hd.o_245 : PySem.Params → PySem.Obj := (fun (P : PySem.Params) => (PySem.Obj.mk (PySem.Value.type "function") (Option.none) (PySem.Data.func (PySem.FuncData.mk (PySem.Str.ofString "__init__") (PySem.Str.ofString "InterpolationDepthError.__init__") (fP (sIn 10 0)) (PySem.FuncBody.stmts (fB (sIn 10 0))) (fS (sIn 10 0)) 3 ([] : List (Prod PySem.Str Nat)) PySem.Value.none PySem.Value.none PySem.Value.none (PySem.Value.str (PySem.Str.ofString "cpy313.configparser") 187) (Option.none) (PySem.Value.ref 183) PySem.Value.none 0)) #[]))
noncomputable abbrev hd.o_246 : PySem.Params → PySem.Obj := (fun (P : PySem.Params) => (PySem.Obj.mk (PySem.Value.type "tuple") (Option.none) (PySem.Data.seq #[(PySem.Value.str (PySem.Str.ofString "args") 447)] 0) #[]))
noncomputable abbrev hd.o_247 : PySem.Params → PySem.Obj := (fun (P : PySem.Params) => (PySem.Obj.mk (PySem.Value.type "dict") (Option.none) (PySem.Data.dict #[(PySem.DictEntry.mk (PySem.PyData.keyHash P (PySem.Str.ofString "__module__")) (PySem.Value.str (PySem.Str.ofString "__module__") 431) (PySem.Value.str (PySem.Str.ofString "cpy313.configparser") 187)), (PySem.DictEntry.mk (PySem.PyData.keyHash P (PySem.Str.ofString "__firstlineno__")) (PySem.Value.str (PySem.Str.ofString "__firstlineno__") 435) (PySem.Value.int (78 : Int) 434)), (PySem.DictEntry.mk (PySem.PyData.keyHash P (PySem.Str.ofString "__init__")) (PySem.Value.str (PySem.Str.ofString "__init__") 446) (PySem.Value.ref 184)), (PySem.DictEntry.mk (PySem.PyData.keyHash P (PySem.Str.ofString "__static_attributes__")) (PySem.Value.str (PySem.Str.ofString "__static_attributes__") 448) (PySem.Value.ref 185)), (PySem.DictEntry.mk (PySem.PyData.keyHash P (PySem.Str.ofString "__doc__")) (PySem.Value.str (PySem.Str.ofString "__doc__") 449) PySem.Value.none)] 2) #[]))
noncomputable abbrev hd.o_248 : PySem.Params → PySem.Obj := (fun (P : PySem.Params) => (PySem.Obj.mk (PySem.Value.type "type") (Option.none) (PySem.Data.cls (PySem.ClassData.mk (PySem.Str.ofString "InterpolationDepthError") [(PySem.Value.ref 137)] [(PySem.Value.ref 187), (PySem.Value.ref 137), (PySem.Value.ref 39), (PySem.Value.type "Exception"), (PySem.Value.type "BaseException"), (PySem.Value.type "object")] 186 (PySem.Str.ofString "InterpolationDepthError") Bool.true ([] : List PySem.Str) ([] : List PySem.Value) Bool.false (Option.none) Bool.false)) #[(Option.some (PySem.Value.ref 171)), (Option.none), (Option.some (PySem.Value.str (PySem.Str.ofString "InterpolationDepthError") 424)), (Option.some (PySem.Value.str (PySem.Str.ofString "InterpolationDepthError") 432)), (Option.some (PySem.Value.builtin "Exception.__new__")), (Option.some (PySem.Value.bool Bool.true))]))
noncomputable abbrev hd.o_249 : PySem.Params → PySem.Obj := (fun (P : PySem.Params) => (PySem.Obj.mk (PySem.Value.type "super") (Option.none) (PySem.Data.fields #[(PySem.Value.ref 187), (PySem.Value.ref 187), (PySem.Value.ref 187)]) #[]))
noncomputable abbrev hd.o_250 : PySem.Params → PySem.Obj := (fun (P : PySem.Params) => (PySem.Obj.mk (PySem.Value.type "builtin_function_or_method") (Option.none) (PySem.Data.fields #[(PySem.Value.builtin "object.__init_subclass__"), (PySem.Value.ref 187)]) #[]))
noncomputable abbrev hd.o_251 : PySem.Params → PySem.Obj := (fun (P : PySem.Params) => (PySem.Obj.mk (PySem.Value.type "tuple") (Option.none) (PySem.Data.seq #[] 0) #[]))
noncomputable abbrev hd.o_252 : PySem.Params → PySem.Obj := (fun (P : PySem.Params) => (PySem.Obj.mk PySem.Value.none (Option.none) (PySem.Data.fields #[]) #[]))
noncomputable abbrev hd.o_253 : PySem.Params → PySem.Obj := (fun (P : PySem.Params) => (PySem.Obj.mk (PySem.Value.type "tuple") (Option.none) (PySem.Data.seq #[(PySem.Value.str (PySem.Str.ofString "kind") 457)] 0) #[]))
noncomputable abbrev hd.o_254 : PySem.Params → PySem.Obj := (fun (P : PySem.Params) => (PySem.Obj.mk (PySem.Value.type "tuple") (Option.none) (PySem.Data.seq #[] 0) #[]))
noncomputable abbrev hd.o_255 : PySem.Params → PySem.Obj := (fun (P : PySem.Params) => (PySem.Obj.mk PySem.Value.none (Option.none) (PySem.Data.func (PySem.FuncData.mk (PySem.Str.ofString "_law_error") (PySem.Str.ofString "_law_error") (fP (sAt 12)) (PySem.FuncBody.stmts (fB (sAt 12))) (fS (sAt 12)) 0 ([] : List (Prod PySem.Str Nat)) PySem.Value.none PySem.Value.none PySem.Value.none PySem.Value.none (Option.none) PySem.Value.none PySem.Value.none 0)) #[]))
noncomputable abbrev hd.o_256 : PySem.Params → PySem.Obj := (fun (P : PySem.Params) => (PySem.Obj.mk (PySem.Value.type "code") (Option.none) (PySem.Data.fields #[(PySem.Value.str (PySem.Str.ofString "_law_error") 454), (PySem.Value.str (PySem.Str.ofString "_law_error") 455), (PySem.Value.str (PySem.Str.ofString "/claim/cut.py") 456), (PySem.Value.int (85 : Int) 0), (PySem.Value.int (1 : Int) 0), (PySem.Value.int (0 : Int) 0), (PySem.Value.int (0 : Int) 0), (PySem.Value.int (3 : Int) 0), (PySem.Value.ref 190), (PySem.Value.bool Bool.true), (PySem.Value.int (181 : Int) 0), (PySem.Value.ref 191), PySem.Value.none, (PySem.Value.ref 192), (PySem.Value.ref 193), (PySem.Value.ref 194), (PySem.Value.int (458 : Int) 0), (PySem.Value.int (85 : Int) 0), (PySem.Value.str (PySem.Str.ofString "/claim/cut.py") 459)]) #[]))
noncomputable abbrev hd.o_257 : PySem.Params → PySem.Obj := (fun (P : PySem.Params) => (PySem.Obj.mk (PySem.Value.type "function") (Option.none) (PySem.Data.func (PySem.FuncData.mk (PySem.Str.ofString "_law_error") (PySem.Str.ofString "_law_error") (fP (sAt 12)) (PySem.FuncBody.stmts (fB (sAt 12))) (fS (sAt 12)) 3 ([] : List (Prod PySem.Str Nat)) PySem.Value.none PySem.Value.none PySem.Value.none (PySem.Value.str (PySem.Str.ofString "law_dv0002_02") 452) (Option.none) (PySem.Value.ref 195) PySem.Value.none 0)) #[]))
noncomputable abbrev hd.o_258 : PySem.Params → PySem.Obj := (fun (P : PySem.Params) => (PySem.Obj.mk (PySem.Value.type "tuple") (Option.none) (PySem.Data.seq #[] 0) #[]))
noncomputable abbrev hd.o_259 : PySem.Params → PySem.Obj := (fun (P : PySem.Params) => (PySem.Obj.mk PySem.Value.none (Option.none) (PySem.Data.fields #[]) #[]))
noncomputable abbrev hd.o_260 : PySem.Params → PySem.Obj := (fun (P : PySem.Params) => (PySem.Obj.mk (PySem.Value.type "tuple") (Option.none) (PySem.Data.seq #[(PySem.Value.str (PySem.Str.ofString "caught") 464), (PySem.Value.str (PySem.Str.ofString "guard") 465), (PySem.Value.str (PySem.Str.ofString "told") 466)] 0) #[]))
noncomputable abbrev hd.o_261 : PySem.Params → PySem.Obj := (fun (P : PySem.Params) => (PySem.Obj.mk (PySem.Value.type "tuple") (Option.none) (PySem.Data.seq #[] 0) #[]))
noncomputable abbrev hd.o_262 : PySem.Params → PySem.Obj := (fun (P : PySem.Params) => (PySem.Obj.mk PySem.Value.none (Option.none) (PySem.Data.func (PySem.FuncData.mk (PySem.Str.ofString "_law_on") (PySem.Str.ofString "_law_on") (fP (sAt 13)) (PySem.FuncBody.stmts (fB (sAt 13))) (fS (sAt 13)) 0 ([] : List (Prod PySem.Str Nat)) PySem.Value.none PySem.Value.none PySem.Value.none PySem.Value.none (Option.none) PySem.Value.none PySem.Value.none 0)) #[]))
noncomputable abbrev hd.o_263 : PySem.Params → PySem.Obj := (fun (P : PySem.Params) => (PySem.Obj.mk (PySem.Value.type "code") (Option.none) (PySem.Data.fields #[(PySem.Value.str (PySem.Str.ofString "_law_on") 461), (PySem.Value.str (PySem.Str.ofString "_law_on") 462), (PySem.Value.str (PySem.Str.ofString "/claim/cut.py") 463), (PySem.Value.int (103 : Int) 0), (PySem.Value.int (3 : Int) 0), (PySem.Value.int (0 : Int) 0), (PySem.Value.int (0 : Int) 0), (PySem.Value.int (3 : Int) 0), (PySem.Value.ref 197), (PySem.Value.bool Bool.true), (PySem.Value.int (181 : Int) 0), (PySem.Value.ref 198), PySem.Value.none, (PySem.Value.ref 199), (PySem.Value.ref 200), (PySem.Value.ref 201), (PySem.Value.int (467 : Int) 0), (PySem.Value.int (103 : Int) 0), (PySem.Value.str (PySem.Str.ofString "/claim/cut.py") 468)]) #[]))
noncomputable abbrev hd.o_264 : PySem.Params → PySem.Obj := (fun (P : PySem.Params) => (PySem.Obj.mk (PySem.Value.type "function") (Option.none) (PySem.Data.func (PySem.FuncData.mk (PySem.Str.ofString "_law_on") (PySem.Str.ofString "_law_on") (fP (sAt 13)) (PySem.FuncBody.stmts (fB (sAt 13))) (fS (sAt 13)) 3 ([] : List (Prod PySem.Str Nat)) PySem.Value.none PySem.Value.none PySem.Value.none (PySem.Value.str (PySem.Str.ofString "law_dv0002_02") 452) (Option.none) (PySem.Value.ref 202) PySem.Value.none 0)) #[]))
noncomputable abbrev hd.o_265 : PySem.Params → PySem.Obj := (fun (P : PySem.Params) => (PySem.Obj.mk (PySem.Value.type "tuple") (Option.none) (PySem.Data.seq #[] 0) #[]))
noncomputable abbrev hd.o_266 : PySem.Params → PySem.Obj := (fun (P : PySem.Params) => (PySem.Obj.mk PySem.Value.none (Option.none) (PySem.Data.fields #[]) #[]))
noncomputable abbrev hd.o_267 : PySem.Params → PySem.Obj := (fun (P : PySem.Params) => (PySem.Obj.mk (PySem.Value.type "tuple") (Option.none) (PySem.Data.seq #[(PySem.Value.str (PySem.Str.ofString "guards") 473), (PySem.Value.str (PySem.Str.ofString "kind") 474), (PySem.Value.str (PySem.Str.ofString "told") 475), (PySem.Value.str (PySem.Str.ofString "guard") 476), (PySem.Value.str (PySem.Str.ofString "inner") 477), (PySem.Value.str (PySem.Str.ofString "caught") 478)] 0) #[]))
noncomputable abbrev hd.o_268 : PySem.Params → PySem.Obj := (fun (P : PySem.Params) => (PySem.Obj.mk (PySem.Value.type "tuple") (Option.none) (PySem.Data.seq #[] 0) #[]))
noncomputable abbrev hd.o_269 : PySem.Params → PySem.Obj := (fun (P : PySem.Params) => (PySem.Obj.mk PySem.Value.none (Option.none) (PySem.Data.func (PySem.FuncData.mk (PySem.Str.ofString "_law_through") (PySem.Str.ofString "_law_through") (fP (sAt 14)) (PySem.FuncBody.stmts (fB (sAt 14))) (fS (sAt 14)) 0 ([] : List (Prod PySem.Str Nat)) PySem.Value.none PySem.Value.none PySem.Value.none PySem.Value.none (Option.none) PySem.Value.none PySem.Value.none 0)) #[]))
noncomputable abbrev hd.o_270 : PySem.Params → PySem.Obj := (fun (P : PySem.Params) => (PySem.Obj.mk (PySem.Value.type "code") (Option.none) (PySem.Data.fields #[(PySem.Value.str (PySem.Str.ofString "_law_through") 470), (PySem.Value.str (PySem.Str.ofString "_law_through") 471), (PySem.Value.str (PySem.Str.ofString "/claim/cut.py") 472), (PySem.Value.int (106 : Int) 0), (PySem.Value.int (3 : Int) 0), (PySem.Value.int (0 : Int) 0), (PySem.Value.int (0 : Int) 0), (PySem.Value.int (3 : Int) 0), (PySem.Value.ref 204), (PySem.Value.bool Bool.true), (PySem.Value.int (181 : Int) 0), (PySem.Value.ref 205), PySem.Value.none, (PySem.Value.ref 206), (PySem.Value.ref 207), (PySem.Value.ref 208), (PySem.Value.int (479 : Int) 0), (PySem.Value.int (106 : Int) 0), (PySem.Value.str (PySem.Str.ofString "/claim/cut.py") 480)]) #[]))
noncomputable abbrev hd.o_271 : PySem.Params → PySem.Obj := (fun (P : PySem.Params) => (PySem.Obj.mk (PySem.Value.type "function") (Option.none) (PySem.Data.func (PySem.FuncData.mk (PySem.Str.ofString "_law_through") (PySem.Str.ofString "_law_through") (fP (sAt 14)) (PySem.FuncBody.stmts (fB (sAt 14))) (fS (sAt 14)) 3 ([] : List (Prod PySem.Str Nat)) PySem.Value.none PySem.Value.none PySem.Value.none (PySem.Value.str (PySem.Str.ofString "law_dv0002_02") 452) (Option.none) (PySem.Value.ref 209) PySem.Value.none 0)) #[]))
noncomputable abbrev hd.o_272 : PySem.Params → PySem.Obj := (fun (P : PySem.Params) => (PySem.Obj.mk (PySem.Value.type "tuple") (Option.none) (PySem.Data.seq #[] 0) #[]))
noncomputable abbrev hd.o_273 : PySem.Params → PySem.Obj := (fun (P : PySem.Params) => (PySem.Obj.mk PySem.Value.none (Option.none) (PySem.Data.fields #[]) #[]))
noncomputable abbrev hd.o_274 : PySem.Params → PySem.Obj := (fun (P : PySem.Params) => (PySem.Obj.mk (PySem.Value.type "tuple") (Option.none) (PySem.Data.seq #[(PySem.Value.str (PySem.Str.ofString "key") 485)] 0) #[]))
noncomputable abbrev hd.o_275 : PySem.Params → PySem.Obj := (fun (P : PySem.Params) => (PySem.Obj.mk (PySem.Value.type "tuple") (Option.none) (PySem.Data.seq #[] 0) #[]))
noncomputable abbrev hd.o_276 : PySem.Params → PySem.Obj := (fun (P : PySem.Params) => (PySem.Obj.mk PySem.Value.none (Option.none) (PySem.Data.func (PySem.FuncData.mk (PySem.Str.ofString "_law_words") (PySem.Str.ofString "_law_words") (fP (sAt 15)) (PySem.FuncBody.stmts (fB (sAt 15))) (fS (sAt 15)) 0 ([] : List (Prod PySem.Str Nat)) PySem.Value.none PySem.Value.none PySem.Value.none PySem.Value.none (Option.none) PySem.Value.none PySem.Value.none 0)) #[]))
noncomputable abbrev hd.o_277 : PySem.Params → PySem.Obj := (fun (P : PySem.Params) => (PySem.Obj.mk (PySem.Value.type "code") (Option.none) (PySem.Data.fields #[(PySem.Value.str (PySem.Str.ofString "_law_words") 482), (PySem.Value.str (PySem.Str.ofString "_law_words") 483), (PySem.Value.str (PySem.Str.ofString "/claim/cut.py") 484), (PySem.Value.int (176 : Int) 0), (PySem.Value.int (0 : Int) 0), (PySem.Value.int (0 : Int) 0), (PySem.Value.int (0 : Int) 0), (PySem.Value.int (3 : Int) 0), (PySem.Value.ref 211), (PySem.Value.bool Bool.true), (PySem.Value.int (181 : Int) 0), (PySem.Value.ref 212), PySem.Value.none, (PySem.Value.ref 213), (PySem.Value.ref 214), (PySem.Value.ref 215), (PySem.Value.int (486 : Int) 0), (PySem.Value.int (176 : Int) 0), (PySem.Value.str (PySem.Str.ofString "/claim/cut.py") 487)]) #[]))
noncomputable abbrev hd.o_278 : PySem.Params → PySem.Obj := (fun (P : PySem.Params) => (PySem.Obj.mk (PySem.Value.type "function") (Option.none) (PySem.Data.func (PySem.FuncData.mk (PySem.Str.ofString "_law_words") (PySem.Str.ofString "_law_words") (fP (sAt 15)) (PySem.FuncBody.stmts (fB (sAt 15))) (fS (sAt 15)) 3 ([] : List (Prod PySem.Str Nat)) PySem.Value.none PySem.Value.none PySem.Value.none (PySem.Value.str (PySem.Str.ofString "law_dv0002_02") 452) (Option.none) (PySem.Value.ref 216) PySem.Value.none 0)) #[]))
noncomputable abbrev hd.o_279 : PySem.Params → PySem.Obj := (fun (P : PySem.Params) => (PySem.Obj.mk (PySem.Value.type "dict") (Option.none) (PySem.Data.dict #[(PySem.DictEntry.mk (PySem.PyData.keyHash P (PySem.Str.ofString "__name__")) (PySem.Value.str (PySem.Str.ofString "__name__") 165) (PySem.Value.str (PySem.Str.ofString "law_dv0002_02") 452)), (PySem.DictEntry.mk (PySem.PyData.keyHash P (PySem.Str.ofString "__doc__")) (PySem.Value.str (PySem.Str.ofString "__doc__") 166) PySem.Value.none), (PySem.DictEntry.mk (PySem.PyData.keyHash P (PySem.Str.ofString "__package__")) (PySem.Value.str (PySem.Str.ofString "__package__") 167) PySem.Value.none), (PySem.DictEntry.mk (PySem.PyData.keyHash P (PySem.Str.ofString "__loader__")) (PySem.Value.str (PySem.Str.ofString "__loader__") 168) (PySem.Value.builtin "__main__.__loader__#opaque")), (PySem.DictEntry.mk (PySem.PyData.keyHash P (PySem.Str.ofString "__spec__")) (PySem.Value.str (PySem.Str.ofString "__spec__") 169) PySem.Value.none), (PySem.DictEntry.mk (PySem.PyData.keyHash P (PySem.Str.ofString "__annotations__")) (PySem.Value.str (PySem.Str.ofString "__annotations__") 170) (PySem.Value.ref 6)), (PySem.DictEntry.mk (PySem.PyData.keyHash P (PySem.Str.ofString "__builtins__")) (PySem.Value.str (PySem.Str.ofString "__builtins__") 171) (PySem.Value.ref 4)), (PySem.DictEntry.mk (PySem.PyData.keyHash P (PySem.Str.ofString "__file__")) (PySem.Value.str (PySem.Str.ofString "__file__") 173) (PySem.Value.str (PySem.Str.ofString "/claim/cut.py") 172)), (PySem.DictEntry.mk (PySem.PyData.keyHash P (PySem.Str.ofString "__cached__")) (PySem.Value.str (PySem.Str.ofString "__cached__") 174) PySem.Value.none), (PySem.DictEntry.mk (PySem.PyData.keyHash P (PySem.Str.ofString "MAX_INTERPOLATION_DEPTH")) (PySem.Value.str (PySem.Str.ofString "MAX_INTERPOLATION_DEPTH") 190) (PySem.Value.int (10 : Int) 189)), (PySem.DictEntry.mk (PySem.PyData.keyHash P (PySem.Str.ofString "Error")) (PySem.Value.str (PySem.Str.ofString "Error") 228) (PySem.Value.ref 39)), (PySem.DictEntry.mk (PySem.PyData.keyHash P (PySem.Str.ofString "NoSectionError")) (PySem.Value.str (PySem.Str.ofString "NoSectionError") 254) (PySem.Value.ref 59)), (PySem.DictEntry.mk (PySem.PyData.keyHash P (PySem.Str.ofString "DuplicateSectionError")) (PySem.Value.str (PySem.Str.ofString "DuplicateSectionError") 286) (PySem.Value.ref 79)), (PySem.DictEntry.mk (PySem.PyData.keyHash P (PySem.Str.ofString "DuplicateOptionError")) (PySem.Value.str (PySem.Str.ofString "DuplicateOptionError") 320) (PySem.Value.ref 99)), (PySem.DictEntry.mk (PySem.PyData.keyHash P (PySem.Str.ofString "NoOptionError")) (PySem.Value.str (PySem.Str.ofString "NoOptionError") 348) (PySem.Value.ref 118)), (PySem.DictEntry.mk (PySem.PyData.keyHash P (PySem.Str.ofString "InterpolationError")) (PySem.Value.str (PySem.Str.ofString "InterpolationError") 377) (PySem.Value.ref 137)), (PySem.DictEntry.mk (PySem.PyData.keyHash P (PySem.Str.ofString "InterpolationMissingOptionError")) (PySem.Value.str (PySem.Str.ofString "InterpolationMissingOptionError") 407) (PySem.Value.ref 156)), (PySem.DictEntry.mk (PySem.PyData.keyHash P (PySem.Str.ofString "InterpolationSyntaxError")) (PySem.Value.str (PySem.Str.ofString "InterpolationSyntaxError") 423) (PySem.Value.ref 168)), (PySem.DictEntry.mk (PySem.PyData.keyHash P (PySem.Str.ofString "InterpolationDepthError")) (PySem.Value.str (PySem.Str.ofString "InterpolationDepthError") 451) (PySem.Value.ref 187)), (PySem.DictEntry.mk (PySem.PyData.keyHash P (PySem.Str.ofString "_law_error")) (PySem.Value.str (PySem.Str.ofString "_law_error") 460) (PySem.Value.ref 196)), (PySem.DictEntry.mk (PySem.PyData.keyHash P (PySem.Str.ofString "_law_on")) (PySem.Value.str (PySem.Str.ofString "_law_on") 469) (PySem.Value.ref 203)), (PySem.DictEntry.mk (PySem.PyData.keyHash P (PySem.Str.ofString "_law_through")) (PySem.Value.str (PySem.Str.ofString "_law_through") 481) (PySem.Value.ref 210)), (PySem.DictEntry.mk (PySem.PyData.keyHash P (PySem.Str.ofString "_law_words")) (PySem.Value.str (PySem.Str.ofString "_law_words") 488) (PySem.Value.ref 217)), (PySem.DictEntry.mk (PySem.PyData.keyHash P (PySem.Str.ofString "_law_due")) (PySem.Value.str (PySem.Str.ofString "_law_due") 501) (PySem.Value.ref 224)), (PySem.DictEntry.mk (PySem.PyData.keyHash P (PySem.Str.ofString "law")) (PySem.Value.str (PySem.Str.ofString "law") 507) (PySem.Value.ref 229))] 25) #[]))
noncomputable abbrev hd.o_280 : PySem.Params → PySem.Obj := (fun (P : PySem.Params) => (PySem.Obj.mk PySem.Value.none (Option.none) (PySem.Data.fields #[(PySem.Value.int (3 : Int) 0), (PySem.Value.int (0 : Int) 0), (PySem.Value.ref 20), (PySem.Value.int (12 : Int) 0), (PySem.Value.int (0 : Int) 0), (PySem.Value.ref 48), (PySem.Value.int (18 : Int) 0), (PySem.Value.int (0 : Int) 0), (PySem.Value.ref 67), (PySem.Value.int (36 : Int) 0), (PySem.Value.int (0 : Int) 0), (PySem.Value.ref 87), (PySem.Value.int (55 : Int) 0), (PySem.Value.int (0 : Int) 0), (PySem.Value.ref 107), (PySem.Value.int (62 : Int) 0), (PySem.Value.int (0 : Int) 0), (PySem.Value.ref 126), (PySem.Value.int (69 : Int) 0), (PySem.Value.int (0 : Int) 0), (PySem.Value.ref 145), (PySem.Value.int (76 : Int) 0), (PySem.Value.int (0 : Int) 0), (PySem.Value.ref 164), (PySem.Value.int (78 : Int) 0), (PySem.Value.int (0 : Int) 0), (PySem.Value.ref 176), (PySem.Value.int (85 : Int) 0), (PySem.Value.int (0 : Int) 0), (PySem.Value.ref 195), (PySem.Value.int (103 : Int) 0), (PySem.Value.int (0 : Int) 0), (PySem.Value.ref 202), (PySem.Value.int (106 : Int) 0), (PySem.Value.int (0 : Int) 0), (PySem.Value.ref 209), (PySem.Value.int (176 : Int) 0), (PySem.Value.int (0 : Int) 0), (PySem.Value.ref 216), (PySem.Value.int (179 : Int) 0), (PySem.Value.int (0 : Int) 0), (PySem.Value.ref 223), (PySem.Value.int (188 : Int) 0), (PySem.Value.int (0 : Int) 0), (PySem.Value.ref 228)]) #[]))
noncomputable abbrev hd.o_281 : PySem.Params → PySem.Obj := (fun (P : PySem.Params) => (PySem.Obj.mk (PySem.Value.type "tuple") (Option.none) (PySem.Data.seq #[] 0) #[]))
noncomputable abbrev hd.o_282 : PySem.Params → PySem.Obj := (fun (P : PySem.Params) => (PySem.Obj.mk PySem.Value.none (Option.none) (PySem.Data.fields #[]) #[]))
noncomputable abbrev hd.o_283 : PySem.Params → PySem.Obj := (fun (P : PySem.Params) => (PySem.Obj.mk (PySem.Value.type "tuple") (Option.none) (PySem.Data.seq #[(PySem.Value.str (PySem.Str.ofString "guards") 492), (PySem.Value.str (PySem.Str.ofString "kind") 493), (PySem.Value.str (PySem.Str.ofString "words") 494), (PySem.Value.str (PySem.Str.ofString "behind") 495), (PySem.Value.str (PySem.Str.ofString "due") 496), (PySem.Value.str (PySem.Str.ofString "guard") 497), (PySem.Value.str (PySem.Str.ofString "kin") 498)] 0) #[]))
noncomputable abbrev hd.o_284 : PySem.Params → PySem.Obj := (fun (P : PySem.Params) => (PySem.Obj.mk (PySem.Value.type "tuple") (Option.none) (PySem.Data.seq #[] 0) #[]))
noncomputable abbrev hd.o_285 : PySem.Params → PySem.Obj := (fun (P : PySem.Params) => (PySem.Obj.mk PySem.Value.none (Option.none) (PySem.Data.func (PySem.FuncData.mk (PySem.Str.ofString "_law_due") (PySem.Str.ofString "_law_due") (fP (sAt 16)) (PySem.FuncBody.stmts (fB (sAt 16))) (fS (sAt 16)) 0 ([] : List (Prod PySem.Str Nat)) PySem.Value.none PySem.Value.none PySem.Value.none PySem.Value.none (Option.none) PySem.Value.none PySem.Value.none 0)) #[]))
noncomputable abbrev hd.o_286 : PySem.Params → PySem.Obj := (fun (P : PySem.Params) => (PySem.Obj.mk (PySem.Value.type "code") (Option.none) (PySem.Data.fields #[(PySem.Value.str (PySem.Str.ofString "_law_due") 489), (PySem.Value.str (PySem.Str.ofString "_law_due") 490), (PySem.Value.str (PySem.Str.ofString "/claim/cut.py") 491), (PySem.Value.int (179 : Int) 0), (PySem.Value.int (3 : Int) 0), (PySem.Value.int (0 : Int) 0), (PySem.Value.int (0 : Int) 0), (PySem.Value.int (3 : Int) 0), (PySem.Value.ref 218), (PySem.Value.bool Bool.true), (PySem.Value.int (181 : Int) 0), (PySem.Value.ref 219), PySem.Value.none, (PySem.Value.ref 220), (PySem.Value.ref 221), (PySem.Value.ref 222), (PySem.Value.int (499 : Int) 0), (PySem.Value.int (179 : Int) 0), (PySem.Value.str (PySem.Str.ofString "/claim/cut.py") 500)]) #[]))
noncomputable abbrev hd.o_287 : PySem.Params → PySem.Obj := (fun (P : PySem.Params) => (PySem.Obj.mk (PySem.Value.type "function") (Option.none) (PySem.Data.func (PySem.FuncData.mk (PySem.Str.ofString "_law_due") (PySem.Str.ofString "_law_due") (fP (sAt 16)) (PySem.FuncBody.stmts (fB (sAt 16))) (fS (sAt 16)) 3 ([] : List (Prod PySem.Str Nat)) PySem.Value.none PySem.Value.none PySem.Value.none (PySem.Value.str (PySem.Str.ofString "law_dv0002_02") 452) (Option.none) (PySem.Value.ref 223) PySem.Value.none 0)) #[]))
noncomputable abbrev hd.o_288 : PySem.Params → PySem.Obj := (fun (P : PySem.Params) => (PySem.Obj.mk (PySem.Value.type "tuple") (Option.none) (PySem.Data.seq #[] 0) #[]))
noncomputable abbrev hd.o_289 : PySem.Params → PySem.Obj := (fun (P : PySem.Params) => (PySem.Obj.mk PySem.Value.none (Option.none) (PySem.Data.fields #[]) #[]))
noncomputable abbrev hd.o_290 : PySem.Params → PySem.Obj := (fun (P : PySem.Params) => (PySem.Obj.mk PySem.Value.none (Option.none) (PySem.Data.func (PySem.FuncData.mk (PySem.Str.ofString "law") (PySem.Str.ofString "law") (fP (sAt 17)) (PySem.FuncBody.stmts (fB (sAt 17))) (fS (sAt 17)) 0 ([] : List (Prod PySem.Str Nat)) PySem.Value.none PySem.Value.none PySem.Value.none PySem.Value.none (Option.none) PySem.Value.none PySem.Value.none 0)) #[]))
noncomputable abbrev hd.o_291 : PySem.Params → PySem.Obj := (fun (P : PySem.Params) => (PySem.Obj.mk (PySem.Value.type "code") (Option.none) (PySem.Data.fields #[(PySem.Value.str (PySem.Str.ofString "law") 502), (PySem.Value.str (PySem.Str.ofString "law") 503), (PySem.Value.str (PySem.Str.ofString "/claim/cut.py") 504), (PySem.Value.int (188 : Int) 0), (PySem.Value.int (1 : Int) 0), (PySem.Value.int (0 : Int) 0), (PySem.Value.int (0 : Int) 0), (PySem.Value.int (3 : Int) 0), (PySem.Value.ref 225), (PySem.Value.bool Bool.true), (PySem.Value.int (181 : Int) 0), (PySem.Value.ref 226), PySem.Value.none, PySem.Value.none, PySem.Value.none, (PySem.Value.ref 227), (PySem.Value.int (505 : Int) 0), (PySem.Value.int (188 : Int) 0), (PySem.Value.str (PySem.Str.ofString "/claim/cut.py") 506)]) #[]))
noncomputable abbrev hd.o_292 : PySem.Params → PySem.Obj := (fun (P : PySem.Params) => (PySem.Obj.mk (PySem.Value.type "function") (Option.none) (PySem.Data.func (PySem.FuncData.mk (PySem.Str.ofString "law") (PySem.Str.ofString "law") (fP (sAt 17)) (PySem.FuncBody.stmts (fB (sAt 17))) (fS (sAt 17)) 3 ([] : List (Prod PySem.Str Nat)) PySem.Value.none PySem.Value.none PySem.Value.none (PySem.Value.str (PySem.Str.ofString "law_dv0002_02") 452) (Option.none) (PySem.Value.ref 228) PySem.Value.none 0)) #[]))
noncomputable abbrev hd.heap_46 : (∀ (x : PySem.Params), PySem.Heap) := (fun (P : PySem.Params) => (PySem.Heap.mk (Array.mk [(PySem.W.boot_o_0 P), (PySem.W.boot_o_1 P), (PySem.W.boot_o_2 P), (PySem.W.boot_o_3 P), (PySem.W.boot_o_4 P), (PySem.W.boot_o_5 P), (PySem.W.boot_o_6 P), (PySem.W.boot_o_7 P), (PySem.W.boot_o_8 P), (PySem.W.boot_o_9 P), (PySem.W.boot_o_10 P), (hd.o_43 P), (hd.o_44 P), (hd.o_45 P), (hd.o_46 P)]) (PySem.Life.mk ([] : List Nat) ([] : List Nat) ([] : List Nat) 0 ([] : List (Prod Nat Nat)) ([] : List Nat) Bool.false #[] ([] : List Nat) 0 Bool.false Bool.false Bool.false (0 : Int) [(2000 : Int), (10 : Int), (10 : Int)] Bool.false 0 Bool.true ([] : List Nat) ([] : List Nat) 0 Bool.false)))
noncomputable abbrev hd.tree_47 : PySem.Params → PySem.W.BT := (fun (P : PySem.Params) => (PySem.W.BT.node (PySem.W.boot_o_0 P) (PySem.W.BT.node (PySem.W.boot_o_1 P) (PySem.W.BT.node (PySem.W.boot_o_3 P) (PySem.W.BT.node (PySem.W.boot_o_7 P) PySem.W.BT.nil PySem.W.BT.nil) (PySem.W.BT.node (hd.o_43 P) PySem.W.BT.nil PySem.W.BT.nil)) (PySem.W.BT.node (PySem.W.boot_o_5 P) (PySem.W.BT.node (PySem.W.boot_o_9 P) PySem.W.BT.nil PySem.W.BT.nil) (PySem.W.BT.node (hd.o_45 P) PySem.W.BT.nil PySem.W.BT.nil))) (PySem.W.BT.node (PySem.W.boot_o_2 P) (PySem.W.BT.node (PySem.W.boot_o_4 P) (PySem.W.BT.node (PySem.W.boot_o_8 P) PySem.W.BT.nil PySem.W.BT.nil) (PySem.W.BT.node (hd.o_44 P) PySem.W.BT.nil PySem.W.BT.nil)) (PySem.W.BT.node (PySem.W.boot_o_6 P) (PySem.W.BT.node (PySem.W.boot_o_10 P) PySem.W.BT.nil PySem.W.BT.nil) (PySem.W.BT.node (hd.o_46 P) PySem.W.BT.nil PySem.W.BT.nil)))))
noncomputable abbrev hd.sts_49 : List PySem.Stmt := ((PySem.W.behindTheImports pE).drop 0).take 3
noncomputable abbrev hd.tree_79 : PySem.Params → PySem.W.BT := (fun (P : PySem.Params) => (PySem.W.BT.node (PySem.W.boot_o_0 P) (PySem.W.BT.node (PySem.W.boot_o_1 P) (PySem.W.BT.node (hd.o_50 P) (PySem.W.BT.node (PySem.W.boot_o_7 P) (PySem.W.BT.node (hd.o_52 P) (PySem.W.BT.node (hd.o_68 P) PySem.W.BT.nil PySem.W.BT.nil) PySem.W.BT.nil) (PySem.W.BT.node (hd.o_60 P) (PySem.W.BT.node (hd.o_76 P) PySem.W.BT.nil PySem.W.BT.nil) PySem.W.BT.nil)) (PySem.W.BT.node (hd.o_43 P) (PySem.W.BT.node (hd.o_56 P) (PySem.W.BT.node (hd.o_72 P) PySem.W.BT.nil PySem.W.BT.nil) PySem.W.BT.nil) (PySem.W.BT.node (hd.o_64 P) PySem.W.BT.nil PySem.W.BT.nil))) (PySem.W.BT.node (PySem.W.boot_o_5 P) (PySem.W.BT.node (PySem.W.boot_o_9 P) (PySem.W.BT.node (hd.o_54 P) (PySem.W.BT.node (hd.o_70 P) PySem.W.BT.nil PySem.W.BT.nil) PySem.W.BT.nil) (PySem.W.BT.node (hd.o_62 P) (PySem.W.BT.node (hd.o_78 P) PySem.W.BT.nil PySem.W.BT.nil) PySem.W.BT.nil)) (PySem.W.BT.node (hd.o_45 P) (PySem.W.BT.node (hd.o_58 P) (PySem.W.BT.node (hd.o_74 P) PySem.W.BT.nil PySem.W.BT.nil) PySem.W.BT.nil) (PySem.W.BT.node (hd.o_66 P) PySem.W.BT.nil PySem.W.BT.nil)))) (PySem.W.BT.node (hd.o_49 P) (PySem.W.BT.node (PySem.W.boot_o_4 P) (PySem.W.BT.node (PySem.W.boot_o_8 P) (PySem.W.BT.node (hd.o_53 P) (PySem.W.BT.node (hd.o_69 P) PySem.W.BT.nil PySem.W.BT.nil) PySem.W.BT.nil) (PySem.W.BT.node (hd.o_61 P) (PySem.W.BT.node (hd.o_77 P) PySem.W.BT.nil PySem.W.BT.nil) PySem.W.BT.nil)) (PySem.W.BT.node (hd.o_51 P) (PySem.W.BT.node (hd.o_57 P) (PySem.W.BT.node (hd.o_73 P) PySem.W.BT.nil PySem.W.BT.nil) PySem.W.BT.nil) (PySem.W.BT.node (hd.o_65 P) PySem.W.BT.nil PySem.W.BT.nil))) (PySem.W.BT.node (PySem.W.boot_o_6 P) (PySem.W.BT.node (PySem.W.boot_o_10 P) (PySem.W.BT.node (hd.o_55 P) (PySem.W.BT.node (hd.o_71 P) PySem.W.BT.nil PySem.W.BT.nil) PySem.W.BT.nil) (PySem.W.BT.node (hd.o_63 P) (PySem.W.BT.node (hd.o_79 P) PySem.W.BT.nil PySem.W.BT.nil) PySem.W.BT.nil)) (PySem.W.BT.node (hd.o_46 P) (PySem.W.BT.node (hd.o_59 P) (PySem.W.BT.node (hd.o_75 P) PySem.W.BT.nil PySem.W.BT.nil) PySem.W.BT.nil) (PySem.W.BT.node (hd.o_67 P) PySem.W.BT.nil PySem.W.BT.nil))))))
noncomputable abbrev hd.sts_80 : List PySem.Stmt := ((PySem.W.behindTheImports pE).drop 3).take 1
noncomputable abbrev hd.tree_101 : PySem.Params → PySem.W.BT := (fun (P : PySem.Params) => (PySem.W.BT.node (PySem.W.boot_o_0 P) (PySem.W.BT.node (PySem.W.boot_o_1 P) (PySem.W.BT.node (hd.o_80 P) (PySem.W.BT.node (PySem.W.boot_o_7 P) (PySem.W.BT.node (hd.o_52 P) (PySem.W.BT.node (hd.o_68 P) PySem.W.BT.nil PySem.W.BT.nil) (PySem.W.BT.node (hd.o_87 P) PySem.W.BT.nil PySem.W.BT.nil)) (PySem.W.BT.node (hd.o_60 P) (PySem.W.BT.node (hd.o_82 P) PySem.W.BT.nil PySem.W.BT.nil) (PySem.W.BT.node (hd.o_95 P) PySem.W.BT.nil PySem.W.BT.nil))) (PySem.W.BT.node (hd.o_43 P) (PySem.W.BT.node (hd.o_56 P) (PySem.W.BT.node (hd.o_72 P) PySem.W.BT.nil PySem.W.BT.nil) (PySem.W.BT.node (hd.o_91 P) PySem.W.BT.nil PySem.W.BT.nil)) (PySem.W.BT.node (hd.o_64 P) (PySem.W.BT.node (hd.o_83 P) PySem.W.BT.nil PySem.W.BT.nil) (PySem.W.BT.node (hd.o_99 P) PySem.W.BT.nil PySem.W.BT.nil)))) (PySem.W.BT.node (PySem.W.boot_o_5 P) (PySem.W.BT.node (PySem.W.boot_o_9 P) (PySem.W.BT.node (hd.o_54 P) (PySem.W.BT.node (hd.o_70 P) PySem.W.BT.nil PySem.W.BT.nil) (PySem.W.BT.node (hd.o_89 P) PySem.W.BT.nil PySem.W.BT.nil)) (PySem.W.BT.node (hd.o_62 P) (PySem.W.BT.node (hd.o_78 P) PySem.W.BT.nil PySem.W.BT.nil) (PySem.W.BT.node (hd.o_97 P) PySem.W.BT.nil PySem.W.BT.nil))) (PySem.W.BT.node (hd.o_45 P) (PySem.W.BT.node (hd.o_58 P) (PySem.W.BT.node (hd.o_74 P) PySem.W.BT.nil PySem.W.BT.nil) (PySem.W.BT.node (hd.o_93 P) PySem.W.BT.nil PySem.W.BT.nil)) (PySem.W.BT.node (hd.o_66 P) (PySem.W.BT.node (hd.o_85 P) PySem.W.BT.nil PySem.W.BT.nil) (PySem.W.BT.node (hd.o_101 P) PySem.W.BT.nil PySem.W.BT.nil))))) (PySem.W.BT.node (hd.o_49 P) (PySem.W.BT.node (PySem.W.boot_o_4 P) (PySem.W.BT.node (PySem.W.boot_o_8 P) (PySem.W.BT.node (hd.o_53 P) (PySem.W.BT.node (hd.o_69 P) PySem.W.BT.nil PySem.W.BT.nil) (PySem.W.BT.node (hd.o_88 P) PySem.W.BT.nil PySem.W.BT.nil)) (PySem.W.BT.node (hd.o_61 P) (PySem.W.BT.node (hd.o_77 P) PySem.W.BT.nil PySem.W.BT.nil) (PySem.W.BT.node (hd.o_96 P) PySem.W.BT.nil PySem.W.BT.nil))) (PySem.W.BT.node (hd.o_81 P) (PySem.W.BT.node (hd.o_57 P) (PySem.W.BT.node (hd.o_73 P) PySem.W.BT.nil PySem.W.BT.nil) (PySem.W.BT.node (hd.o_92 P) PySem.W.BT.nil PySem.W.BT.nil)) (PySem.W.BT.node (hd.o_65 P) (PySem.W.BT.node (hd.o_84 P) PySem.W.BT.nil PySem.W.BT.nil) (PySem.W.BT.node (hd.o_100 P) PySem.W.BT.nil PySem.W.BT.nil)))) (PySem.W.BT.node (PySem.W.boot_o_6 P) (PySem.W.BT.node (PySem.W.boot_o_10 P) (PySem.W.BT.node (hd.o_55 P) (PySem.W.BT.node (hd.o_71 P) PySem.W.BT.nil PySem.W.BT.nil) (PySem.W.BT.node (hd.o_90 P) PySem.W.BT.nil PySem.W.BT.nil)) (PySem.W.BT.node (hd.o_63 P) (PySem.W.BT.node (hd.o_79 P) PySem.W.BT.nil PySem.W.BT.nil) (PySem.W.BT.node (hd.o_98 P) PySem.W.BT.nil PySem.W.BT.nil))) (PySem.W.BT.node (hd.o_46 P) (PySem.W.BT.node (hd.o_59 P) (PySem.W.BT.node (hd.o_75 P) PySem.W.BT.nil PySem.W.BT.nil) (PySem.W.BT.node (hd.o_94 P) PySem.W.BT.nil PySem.W.BT.nil)) (PySem.W.BT.node (hd.o_67 P) (PySem.W.BT.node (hd.o_86 P) PySem.W.BT.nil PySem.W.BT.nil) PySem.W.BT.nil))))))
noncomputable abbrev hd.sts_102 : List PySem.Stmt := ((PySem.W.behindTheImports pE).drop 4).take 1
noncomputable abbrev hd.tree_124 : PySem.Params → PySem.W.BT := (fun (P : PySem.Params) => (PySem.W.BT.node (PySem.W.boot_o_0 P) (PySem.W.BT.node (PySem.W.boot_o_1 P) (PySem.W.BT.node (hd.o_102 P) (PySem.W.BT.node (PySem.W.boot_o_7 P) (PySem.W.BT.node (hd.o_52 P) (PySem.W.BT.node (hd.o_68 P) (PySem.W.BT.node (hd.o_106 P) PySem.W.BT.nil PySem.W.BT.nil) PySem.W.BT.nil) (PySem.W.BT.node (hd.o_87 P) (PySem.W.BT.node (hd.o_122 P) PySem.W.BT.nil PySem.W.BT.nil) PySem.W.BT.nil)) (PySem.W.BT.node (hd.o_60 P) (PySem.W.BT.node (hd.o_104 P) (PySem.W.BT.node (hd.o_114 P) PySem.W.BT.nil PySem.W.BT.nil) PySem.W.BT.nil) (PySem.W.BT.node (hd.o_95 P) PySem.W.BT.nil PySem.W.BT.nil))) (PySem.W.BT.node (hd.o_43 P) (PySem.W.BT.node (hd.o_56 P) (PySem.W.BT.node (hd.o_72 P) (PySem.W.BT.node (hd.o_110 P) PySem.W.BT.nil PySem.W.BT.nil) PySem.W.BT.nil) (PySem.W.BT.node (hd.o_91 P) PySem.W.BT.nil PySem.W.BT.nil)) (PySem.W.BT.node (hd.o_64 P) (PySem.W.BT.node (hd.o_83 P) (PySem.W.BT.node (hd.o_118 P) PySem.W.BT.nil PySem.W.BT.nil) PySem.W.BT.nil) (PySem.W.BT.node (hd.o_99 P) PySem.W.BT.nil PySem.W.BT.nil)))) (PySem.W.BT.node (PySem.W.boot_o_5 P) (PySem.W.BT.node (PySem.W.boot_o_9 P) (PySem.W.BT.node (hd.o_54 P) (PySem.W.BT.node (hd.o_70 P) (PySem.W.BT.node (hd.o_108 P) PySem.W.BT.nil PySem.W.BT.nil) PySem.W.BT.nil) (PySem.W.BT.node (hd.o_89 P) (PySem.W.BT.node (hd.o_124 P) PySem.W.BT.nil PySem.W.BT.nil) PySem.W.BT.nil)) (PySem.W.BT.node (hd.o_62 P) (PySem.W.BT.node (hd.o_78 P) (PySem.W.BT.node (hd.o_116 P) PySem.W.BT.nil PySem.W.BT.nil) PySem.W.BT.nil) (PySem.W.BT.node (hd.o_97 P) PySem.W.BT.nil PySem.W.BT.nil))) (PySem.W.BT.node (hd.o_45 P) (PySem.W.BT.node (hd.o_58 P) (PySem.W.BT.node (hd.o_74 P) (PySem.W.BT.node (hd.o_112 P) PySem.W.BT.nil PySem.W.BT.nil) PySem.W.BT.nil) (PySem.W.BT.node (hd.o_93 P) PySem.W.BT.nil PySem.W.BT.nil)) (PySem.W.BT.node (hd.o_66 P) (PySem.W.BT.node (hd.o_85 P) (PySem.W.BT.node (hd.o_120 P) PySem.W.BT.nil PySem.W.BT.nil) PySem.W.BT.nil) (PySem.W.BT.node (hd.o_101 P) PySem.W.BT.nil PySem.W.BT.nil))))) (PySem.W.BT.node (hd.o_49 P) (PySem.W.BT.node (PySem.W.boot_o_4 P) (PySem.W.BT.node (PySem.W.boot_o_8 P) (PySem.W.BT.node (hd.o_53 P) (PySem.W.BT.node (hd.o_69 P) (PySem.W.BT.node (hd.o_107 P) PySem.W.BT.nil PySem.W.BT.nil) PySem.W.BT.nil) (PySem.W.BT.node (hd.o_88 P) (PySem.W.BT.node (hd.o_123 P) PySem.W.BT.nil PySem.W.BT.nil) PySem.W.BT.nil)) (PySem.W.BT.node (hd.o_61 P) (PySem.W.BT.node (hd.o_77 P) (PySem.W.BT.node (hd.o_115 P) PySem.W.BT.nil PySem.W.BT.nil) PySem.W.BT.nil) (PySem.W.BT.node (hd.o_96 P) PySem.W.BT.nil PySem.W.BT.nil))) (PySem.W.BT.node (hd.o_103 P) (PySem.W.BT.node (hd.o_57 P) (PySem.W.BT.node (hd.o_73 P) (PySem.W.BT.node (hd.o_111 P) PySem.W.BT.nil PySem.W.BT.nil) PySem.W.BT.nil) (PySem.W.BT.node (hd.o_92 P) PySem.W.BT.nil PySem.W.BT.nil)) (PySem.W.BT.node (hd.o_65 P) (PySem.W.BT.node (hd.o_84 P) (PySem.W.BT.node (hd.o_119 P) PySem.W.BT.nil PySem.W.BT.nil) PySem.W.BT.nil) (PySem.W.BT.node (hd.o_100 P) PySem.W.BT.nil PySem.W.BT.nil)))) (PySem.W.BT.node (PySem.W.boot_o_6 P) (PySem.W.BT.node (PySem.W.boot_o_10 P) (PySem.W.BT.node (hd.o_55 P) (PySem.W.BT.node (hd.o_71 P) (PySem.W.BT.node (hd.o_109 P) PySem.W.BT.nil PySem.W.BT.nil) PySem.W.BT.nil) (PySem.W.BT.node (hd.o_90 P) PySem.W.BT.nil PySem.W.BT.nil)) (PySem.W.BT.node (hd.o_63 P) (PySem.W.BT.node (hd.o_79 P) (PySem.W.BT.node (hd.o_117 P) PySem.W.BT.nil PySem.W.BT.nil) PySem.W.BT.nil) (PySem.W.BT.node (hd.o_98 P) PySem.W.BT.nil PySem.W.BT.nil))) (PySem.W.BT.node (hd.o_46 P) (PySem.W.BT.node (hd.o_59 P) (PySem.W.BT.node (hd.o_75 P) (PySem.W.BT.node (hd.o_113 P) PySem.W.BT.nil PySem.W.BT.nil) PySem.W.BT.nil) (PySem.W.BT.node (hd.o_94 P) PySem.W.BT.nil PySem.W.BT.nil)) (PySem.W.BT.node (hd.o_67 P) (PySem.W.BT.node (hd.o_86 P) (PySem.W.BT.node (hd.o_121 P) PySem.W.BT.nil PySem.W.BT.nil) PySem.W.BT.nil) (PySem.W.BT.node (hd.o_105 P) PySem.W.BT.nil PySem.W.BT.nil)))))))
noncomputable abbrev hd.sts_125 : List PySem.Stmt := ((PySem.W.behindTheImports pE).drop 5).take 1
noncomputable abbrev hd.tree_147 : PySem.Params → PySem.W.BT := (fun (P : PySem.Params) => (PySem.W.BT.node (PySem.W.boot_o_0 P) (PySem.W.BT.node (PySem.W.boot_o_1 P) (PySem.W.BT.node (hd.o_125 P) (PySem.W.BT.node (PySem.W.boot_o_7 P) (PySem.W.BT.node (hd.o_52 P) (PySem.W.BT.node (hd.o_68 P) (PySem.W.BT.node (hd.o_106 P) PySem.W.BT.nil PySem.W.BT.nil) (PySem.W.BT.node (hd.o_141 P) PySem.W.BT.nil PySem.W.BT.nil)) (PySem.W.BT.node (hd.o_87 P) (PySem.W.BT.node (hd.o_122 P) PySem.W.BT.nil PySem.W.BT.nil) PySem.W.BT.nil)) (PySem.W.BT.node (hd.o_60 P) (PySem.W.BT.node (hd.o_127 P) (PySem.W.BT.node (hd.o_114 P) PySem.W.BT.nil PySem.W.BT.nil) PySem.W.BT.nil) (PySem.W.BT.node (hd.o_95 P) (PySem.W.BT.node (hd.o_133 P) PySem.W.BT.nil PySem.W.BT.nil) PySem.W.BT.nil))) (PySem.W.BT.node (hd.o_43 P) (PySem.W.BT.node (hd.o_56 P) (PySem.W.BT.node (hd.o_72 P) (PySem.W.BT.node (hd.o_110 P) PySem.W.BT.nil PySem.W.BT.nil) (PySem.W.BT.node (hd.o_145 P) PySem.W.BT.nil PySem.W.BT.nil)) (PySem.W.BT.node (hd.o_91 P) (PySem.W.BT.node (hd.o_129 P) PySem.W.BT.nil PySem.W.BT.nil) PySem.W.BT.nil)) (PySem.W.BT.node (hd.o_64 P) (PySem.W.BT.node (hd.o_83 P) (PySem.W.BT.node (hd.o_118 P) PySem.W.BT.nil PySem.W.BT.nil) PySem.W.BT.nil) (PySem.W.BT.node (hd.o_99 P) (PySem.W.BT.node (hd.o_137 P) PySem.W.BT.nil PySem.W.BT.nil) PySem.W.BT.nil)))) (PySem.W.BT.node (PySem.W.boot_o_5 P) (PySem.W.BT.node (PySem.W.boot_o_9 P) (PySem.W.BT.node (hd.o_54 P) (PySem.W.BT.node (hd.o_70 P) (PySem.W.BT.node (hd.o_108 P) PySem.W.BT.nil PySem.W.BT.nil) (PySem.W.BT.node (hd.o_143 P) PySem.W.BT.nil PySem.W.BT.nil)) (PySem.W.BT.node (hd.o_89 P) (PySem.W.BT.node (hd.o_124 P) PySem.W.BT.nil PySem.W.BT.nil) PySem.W.BT.nil)) (PySem.W.BT.node (hd.o_62 P) (PySem.W.BT.node (hd.o_78 P) (PySem.W.BT.node (hd.o_116 P) PySem.W.BT.nil PySem.W.BT.nil) PySem.W.BT.nil) (PySem.W.BT.node (hd.o_97 P) (PySem.W.BT.node (hd.o_135 P) PySem.W.BT.nil PySem.W.BT.nil) PySem.W.BT.nil))) (PySem.W.BT.node (hd.o_45 P) (PySem.W.BT.node (hd.o_58 P) (PySem.W.BT.node (hd.o_74 P) (PySem.W.BT.node (hd.o_112 P) PySem.W.BT.nil PySem.W.BT.nil) (PySem.W.BT.node (hd.o_147 P) PySem.W.BT.nil PySem.W.BT.nil)) (PySem.W.BT.node (hd.o_93 P) (PySem.W.BT.node (hd.o_131 P) PySem.W.BT.nil PySem.W.BT.nil) PySem.W.BT.nil)) (PySem.W.BT.node (hd.o_66 P) (PySem.W.BT.node (hd.o_85 P) (PySem.W.BT.node (hd.o_120 P) PySem.W.BT.nil PySem.W.BT.nil) PySem.W.BT.nil) (PySem.W.BT.node (hd.o_101 P) (PySem.W.BT.node (hd.o_139 P) PySem.W.BT.nil PySem.W.BT.nil) PySem.W.BT.nil))))) (PySem.W.BT.node (hd.o_49 P) (PySem.W.BT.node (PySem.W.boot_o_4 P) (PySem.W.BT.node (PySem.W.boot_o_8 P) (PySem.W.BT.node (hd.o_53 P) (PySem.W.BT.node (hd.o_69 P) (PySem.W.BT.node (hd.o_107 P) PySem.W.BT.nil PySem.W.BT.nil) (PySem.W.BT.node (hd.o_142 P) PySem.W.BT.nil PySem.W.BT.nil)) (PySem.W.BT.node (hd.o_88 P) (PySem.W.BT.node (hd.o_123 P) PySem.W.BT.nil PySem.W.BT.nil) PySem.W.BT.nil)) (PySem.W.BT.node (hd.o_61 P) (PySem.W.BT.node (hd.o_77 P) (PySem.W.BT.node (hd.o_115 P) PySem.W.BT.nil PySem.W.BT.nil) PySem.W.BT.nil) (PySem.W.BT.node (hd.o_96 P) (PySem.W.BT.node (hd.o_134 P) PySem.W.BT.nil PySem.W.BT.nil) PySem.W.BT.nil))) (PySem.W.BT.node (hd.o_126 P) (PySem.W.BT.node (hd.o_57 P) (PySem.W.BT.node (hd.o_73 P) (PySem.W.BT.node (hd.o_111 P) PySem.W.BT.nil PySem.W.BT.nil) (PySem.W.BT.node (hd.o_146 P) PySem.W.BT.nil PySem.W.BT.nil)) (PySem.W.BT.node (hd.o_92 P) (PySem.W.BT.node (hd.o_130 P) PySem.W.BT.nil PySem.W.BT.nil) PySem.W.BT.nil)) (PySem.W.BT.node (hd.o_65 P) (PySem.W.BT.node (hd.o_84 P) (PySem.W.BT.node (hd.o_119 P) PySem.W.BT.nil PySem.W.BT.nil) PySem.W.BT.nil) (PySem.W.BT.node (hd.o_100 P) (PySem.W.BT.node (hd.o_138 P) PySem.W.BT.nil PySem.W.BT.nil) PySem.W.BT.nil)))) (PySem.W.BT.node (PySem.W.boot_o_6 P) (PySem.W.BT.node (PySem.W.boot_o_10 P) (PySem.W.BT.node (hd.o_55 P) (PySem.W.BT.node (hd.o_71 P) (PySem.W.BT.node (hd.o_109 P) PySem.W.BT.nil PySem.W.BT.nil) (PySem.W.BT.node (hd.o_144 P) PySem.W.BT.nil PySem.W.BT.nil)) (PySem.W.BT.node (hd.o_90 P) (PySem.W.BT.node (hd.o_128 P) PySem.W.BT.nil PySem.W.BT.nil) PySem.W.BT.nil)) (PySem.W.BT.node (hd.o_63 P) (PySem.W.BT.node (hd.o_79 P) (PySem.W.BT.node (hd.o_117 P) PySem.W.BT.nil PySem.W.BT.nil) PySem.W.BT.nil) (PySem.W.BT.node (hd.o_98 P) (PySem.W.BT.node (hd.o_136 P) PySem.W.BT.nil PySem.W.BT.nil) PySem.W.BT.nil))) (PySem.W.BT.node (hd.o_46 P) (PySem.W.BT.node (hd.o_59 P) (PySem.W.BT.node (hd.o_75 P) (PySem.W.BT.node (hd.o_113 P) PySem.W.BT.nil PySem.W.BT.nil) PySem.W.BT.nil) (PySem.W.BT.node (hd.o_94 P) (PySem.W.BT.node (hd.o_132 P) PySem.W.BT.nil PySem.W.BT.nil) PySem.W.BT.nil)) (PySem.W.BT.node (hd.o_67 P) (PySem.W.BT.node (hd.o_86 P) (PySem.W.BT.node (hd.o_121 P) PySem.W.BT.nil PySem.W.BT.nil) PySem.W.BT.nil) (PySem.W.BT.node (hd.o_105 P) (PySem.W.BT.node (hd.o_140 P) PySem.W.BT.nil PySem.W.BT.nil) PySem.W.BT.nil)))))))
noncomputable abbrev hd.sts_148 : List PySem.Stmt := ((PySem.W.behindTheImports pE).drop 6).take 1
noncomputable abbrev hd.tree_169 : PySem.Params → PySem.W.BT := (fun (P : PySem.Params) => (PySem.W.BT.node (PySem.W.boot_o_0 P) (PySem.W.BT.node (PySem.W.boot_o_1 P) (PySem.W.BT.node (hd.o_148 P) (PySem.W.BT.node (PySem.W.boot_o_7 P) (PySem.W.BT.node (hd.o_52 P) (PySem.W.BT.node (hd.o_68 P) (PySem.W.BT.node (hd.o_106 P) PySem.W.BT.nil PySem.W.BT.nil) (PySem.W.BT.node (hd.o_141 P) PySem.W.BT.nil PySem.W.BT.nil)) (PySem.W.BT.node (hd.o_87 P) (PySem.W.BT.node (hd.o_122 P) PySem.W.BT.nil PySem.W.BT.nil) (PySem.W.BT.node (hd.o_160 P) PySem.W.BT.nil PySem.W.BT.nil))) (PySem.W.BT.node (hd.o_60 P) (PySem.W.BT.node (hd.o_150 P) (PySem.W.BT.node (hd.o_114 P) PySem.W.BT.nil PySem.W.BT.nil) (PySem.W.BT.node (hd.o_152 P) PySem.W.BT.nil PySem.W.BT.nil)) (PySem.W.BT.node (hd.o_95 P) (PySem.W.BT.node (hd.o_133 P) PySem.W.BT.nil PySem.W.BT.nil) (PySem.W.BT.node (hd.o_168 P) PySem.W.BT.nil PySem.W.BT.nil)))) (PySem.W.BT.node (hd.o_43 P) (PySem.W.BT.node (hd.o_56 P) (PySem.W.BT.node (hd.o_72 P) (PySem.W.BT.node (hd.o_110 P) PySem.W.BT.nil PySem.W.BT.nil) (PySem.W.BT.node (hd.o_145 P) PySem.W.BT.nil PySem.W.BT.nil)) (PySem.W.BT.node (hd.o_91 P) (PySem.W.BT.node (hd.o_129 P) PySem.W.BT.nil PySem.W.BT.nil) (PySem.W.BT.node (hd.o_164 P) PySem.W.BT.nil PySem.W.BT.nil))) (PySem.W.BT.node (hd.o_64 P) (PySem.W.BT.node (hd.o_83 P) (PySem.W.BT.node (hd.o_118 P) PySem.W.BT.nil PySem.W.BT.nil) (PySem.W.BT.node (hd.o_156 P) PySem.W.BT.nil PySem.W.BT.nil)) (PySem.W.BT.node (hd.o_99 P) (PySem.W.BT.node (hd.o_137 P) PySem.W.BT.nil PySem.W.BT.nil) PySem.W.BT.nil)))) (PySem.W.BT.node (PySem.W.boot_o_5 P) (PySem.W.BT.node (PySem.W.boot_o_9 P) (PySem.W.BT.node (hd.o_54 P) (PySem.W.BT.node (hd.o_70 P) (PySem.W.BT.node (hd.o_108 P) PySem.W.BT.nil PySem.W.BT.nil) (PySem.W.BT.node (hd.o_143 P) PySem.W.BT.nil PySem.W.BT.nil)) (PySem.W.BT.node (hd.o_89 P) (PySem.W.BT.node (hd.o_124 P) PySem.W.BT.nil PySem.W.BT.nil) (PySem.W.BT.node (hd.o_162 P) PySem.W.BT.nil PySem.W.BT.nil))) (PySem.W.BT.node (hd.o_62 P) (PySem.W.BT.node (hd.o_78 P) (PySem.W.BT.node (hd.o_116 P) PySem.W.BT.nil PySem.W.BT.nil) (PySem.W.BT.node (hd.o_154 P) PySem.W.BT.nil PySem.W.BT.nil)) (PySem.W.BT.node (hd.o_97 P) (PySem.W.BT.node (hd.o_135 P) PySem.W.BT.nil PySem.W.BT.nil) PySem.W.BT.nil))) (PySem.W.BT.node (hd.o_45 P) (PySem.W.BT.node (hd.o_58 P) (PySem.W.BT.node (hd.o_74 P) (PySem.W.BT.node (hd.o_112 P) PySem.W.BT.nil PySem.W.BT.nil) (PySem.W.BT.node (hd.o_147 P) PySem.W.BT.nil PySem.W.BT.nil)) (PySem.W.BT.node (hd.o_93 P) (PySem.W.BT.node (hd.o_131 P) PySem.W.BT.nil PySem.W.BT.nil) (PySem.W.BT.node (hd.o_166 P) PySem.W.BT.nil PySem.W.BT.nil))) (PySem.W.BT.node (hd.o_66 P) (PySem.W.BT.node (hd.o_85 P) (PySem.W.BT.node (hd.o_120 P) PySem.W.BT.nil PySem.W.BT.nil) (PySem.W.BT.node (hd.o_158 P) PySem.W.BT.nil PySem.W.BT.nil)) (PySem.W.BT.node (hd.o_101 P) (PySem.W.BT.node (hd.o_139 P) PySem.W.BT.nil PySem.W.BT.nil) PySem.W.BT.nil))))) (PySem.W.BT.node (hd.o_49 P) (PySem.W.BT.node (PySem.W.boot_o_4 P) (PySem.W.BT.node (PySem.W.boot_o_8 P) (PySem.W.BT.node (hd.o_53 P) (PySem.W.BT.node (hd.o_69 P) (PySem.W.BT.node (hd.o_107 P) PySem.W.BT.nil PySem.W.BT.nil) (PySem.W.BT.node (hd.o_142 P) PySem.W.BT.nil PySem.W.BT.nil)) (PySem.W.BT.node (hd.o_88 P) (PySem.W.BT.node (hd.o_123 P) PySem.W.BT.nil PySem.W.BT.nil) (PySem.W.BT.node (hd.o_161 P) PySem.W.BT.nil PySem.W.BT.nil))) (PySem.W.BT.node (hd.o_61 P) (PySem.W.BT.node (hd.o_77 P) (PySem.W.BT.node (hd.o_115 P) PySem.W.BT.nil PySem.W.BT.nil) (PySem.W.BT.node (hd.o_153 P) PySem.W.BT.nil PySem.W.BT.nil)) (PySem.W.BT.node (hd.o_96 P) (PySem.W.BT.node (hd.o_134 P) PySem.W.BT.nil PySem.W.BT.nil) (PySem.W.BT.node (hd.o_169 P) PySem.W.BT.nil PySem.W.BT.nil)))) (PySem.W.BT.node (hd.o_149 P) (PySem.W.BT.node (hd.o_57 P) (PySem.W.BT.node (hd.o_73 P) (PySem.W.BT.node (hd.o_111 P) PySem.W.BT.nil PySem.W.BT.nil) (PySem.W.BT.node (hd.o_146 P) PySem.W.BT.nil PySem.W.BT.nil)) (PySem.W.BT.node (hd.o_92 P) (PySem.W.BT.node (hd.o_130 P) PySem.W.BT.nil PySem.W.BT.nil) (PySem.W.BT.node (hd.o_165 P) PySem.W.BT.nil PySem.W.BT.nil))) (PySem.W.BT.node (hd.o_65 P) (PySem.W.BT.node (hd.o_84 P) (PySem.W.BT.node (hd.o_119 P) PySem.W.BT.nil PySem.W.BT.nil) (PySem.W.BT.node (hd.o_157 P) PySem.W.BT.nil PySem.W.BT.nil)) (PySem.W.BT.node (hd.o_100 P) (PySem.W.BT.node (hd.o_138 P) PySem.W.BT.nil PySem.W.BT.nil) PySem.W.BT.nil)))) (PySem.W.BT.node (PySem.W.boot_o_6 P) (PySem.W.BT.node (PySem.W.boot_o_10 P) (PySem.W.BT.node (hd.o_55 P) (PySem.W.BT.node (hd.o_71 P) (PySem.W.BT.node (hd.o_109 P) PySem.W.BT.nil PySem.W.BT.nil) (PySem.W.BT.node (hd.o_144 P) PySem.W.BT.nil PySem.W.BT.nil)) (PySem.W.BT.node (hd.o_90 P) (PySem.W.BT.node (hd.o_128 P) PySem.W.BT.nil PySem.W.BT.nil) (PySem.W.BT.node (hd.o_163 P) PySem.W.BT.nil PySem.W.BT.nil))) (PySem.W.BT.node (hd.o_63 P) (PySem.W.BT.node (hd.o_79 P) (PySem.W.BT.node (hd.o_117 P) PySem.W.BT.nil PySem.W.BT.nil) (PySem.W.BT.node (hd.o_155 P) PySem.W.BT.nil PySem.W.BT.nil)) (PySem.W.BT.node (hd.o_98 P) (PySem.W.BT.node (hd.o_136 P) PySem.W.BT.nil PySem.W.BT.nil) PySem.W.BT.nil))) (PySem.W.BT.node (hd.o_46 P) (PySem.W.BT.node (hd.o_59 P) (PySem.W.BT.node (hd.o_75 P) (PySem.W.BT.node (hd.o_113 P) PySem.W.BT.nil PySem.W.BT.nil) (PySem.W.BT.node (hd.o_151 P) PySem.W.BT.nil PySem.W.BT.nil)) (PySem.W.BT.node (hd.o_94 P) (PySem.W.BT.node (hd.o_132 P) PySem.W.BT.nil PySem.W.BT.nil) (PySem.W.BT.node (hd.o_167 P) PySem.W.BT.nil PySem.W.BT.nil))) (PySem.W.BT.node (hd.o_67 P) (PySem.W.BT.node (hd.o_86 P) (PySem.W.BT.node (hd.o_121 P) PySem.W.BT.nil PySem.W.BT.nil) (PySem.W.BT.node (hd.o_159 P) PySem.W.BT.nil PySem.W.BT.nil)) (PySem.W.BT.node (hd.o_105 P) (PySem.W.BT.node (hd.o_140 P) PySem.W.BT.nil PySem.W.BT.nil) PySem.W.BT.nil)))))))
noncomputable abbrev hd.sts_170 : List PySem.Stmt := ((PySem.W.behindTheImports pE).drop 7).take 1
noncomputable abbrev hd.tree_191 : PySem.Params → PySem.W.BT := (fun (P : PySem.Params) => (PySem.W.BT.node (PySem.W.boot_o_0 P) (PySem.W.BT.node (PySem.W.boot_o_1 P) (PySem.W.BT.node (hd.o_170 P) (PySem.W.BT.node (PySem.W.boot_o_7 P) (PySem.W.BT.node (hd.o_52 P) (PySem.W.BT.node (hd.o_68 P) (PySem.W.BT.node (hd.o_106 P) (PySem.W.BT.node (hd.o_179 P) PySem.W.BT.nil PySem.W.BT.nil) PySem.W.BT.nil) (PySem.W.BT.node (hd.o_141 P) PySem.W.BT.nil PySem.W.BT.nil)) (PySem.W.BT.node (hd.o_87 P) (PySem.W.BT.node (hd.o_122 P) PySem.W.BT.nil PySem.W.BT.nil) (PySem.W.BT.node (hd.o_160 P) PySem.W.BT.nil PySem.W.BT.nil))) (PySem.W.BT.node (hd.o_60 P) (PySem.W.BT.node (hd.o_172 P) (PySem.W.BT.node (hd.o_114 P) (PySem.W.BT.node (hd.o_187 P) PySem.W.BT.nil PySem.W.BT.nil) PySem.W.BT.nil) (PySem.W.BT.node (hd.o_152 P) PySem.W.BT.nil PySem.W.BT.nil)) (PySem.W.BT.node (hd.o_95 P) (PySem.W.BT.node (hd.o_133 P) PySem.W.BT.nil PySem.W.BT.nil) (PySem.W.BT.node (hd.o_168 P) PySem.W.BT.nil PySem.W.BT.nil)))) (PySem.W.BT.node (hd.o_43 P) (PySem.W.BT.node (hd.o_56 P) (PySem.W.BT.node (hd.o_72 P) (PySem.W.BT.node (hd.o_110 P) (PySem.W.BT.node (hd.o_183 P) PySem.W.BT.nil PySem.W.BT.nil) PySem.W.BT.nil) (PySem.W.BT.node (hd.o_145 P) PySem.W.BT.nil PySem.W.BT.nil)) (PySem.W.BT.node (hd.o_91 P) (PySem.W.BT.node (hd.o_129 P) PySem.W.BT.nil PySem.W.BT.nil) (PySem.W.BT.node (hd.o_164 P) PySem.W.BT.nil PySem.W.BT.nil))) (PySem.W.BT.node (hd.o_64 P) (PySem.W.BT.node (hd.o_83 P) (PySem.W.BT.node (hd.o_118 P) (PySem.W.BT.node (hd.o_191 P) PySem.W.BT.nil PySem.W.BT.nil) PySem.W.BT.nil) (PySem.W.BT.node (hd.o_156 P) PySem.W.BT.nil PySem.W.BT.nil)) (PySem.W.BT.node (hd.o_99 P) (PySem.W.BT.node (hd.o_137 P) PySem.W.BT.nil PySem.W.BT.nil) (PySem.W.BT.node (hd.o_175 P) PySem.W.BT.nil PySem.W.BT.nil))))) (PySem.W.BT.node (PySem.W.boot_o_5 P) (PySem.W.BT.node (PySem.W.boot_o_9 P) (PySem.W.BT.node (hd.o_54 P) (PySem.W.BT.node (hd.o_70 P) (PySem.W.BT.node (hd.o_108 P) (PySem.W.BT.node (hd.o_181 P) PySem.W.BT.nil PySem.W.BT.nil) PySem.W.BT.nil) (PySem.W.BT.node (hd.o_143 P) PySem.W.BT.nil PySem.W.BT.nil)) (PySem.W.BT.node (hd.o_89 P) (PySem.W.BT.node (hd.o_124 P) PySem.W.BT.nil PySem.W.BT.nil) (PySem.W.BT.node (hd.o_162 P) PySem.W.BT.nil PySem.W.BT.nil))) (PySem.W.BT.node (hd.o_62 P) (PySem.W.BT.node (hd.o_78 P) (PySem.W.BT.node (hd.o_116 P) (PySem.W.BT.node (hd.o_189 P) PySem.W.BT.nil PySem.W.BT.nil) PySem.W.BT.nil) (PySem.W.BT.node (hd.o_154 P) PySem.W.BT.nil PySem.W.BT.nil)) (PySem.W.BT.node (hd.o_97 P) (PySem.W.BT.node (hd.o_135 P) PySem.W.BT.nil PySem.W.BT.nil) (PySem.W.BT.node (hd.o_173 P) PySem.W.BT.nil PySem.W.BT.nil)))) (PySem.W.BT.node (hd.o_45 P) (PySem.W.BT.node (hd.o_58 P) (PySem.W.BT.node (hd.o_74 P) (PySem.W.BT.node (hd.o_112 P) (PySem.W.BT.node (hd.o_185 P) PySem.W.BT.nil PySem.W.BT.nil) PySem.W.BT.nil) (PySem.W.BT.node (hd.o_147 P) PySem.W.BT.nil PySem.W.BT.nil)) (PySem.W.BT.node (hd.o_93 P) (PySem.W.BT.node (hd.o_131 P) PySem.W.BT.nil PySem.W.BT.nil) (PySem.W.BT.node (hd.o_166 P) PySem.W.BT.nil PySem.W.BT.nil))) (PySem.W.BT.node (hd.o_66 P) (PySem.W.BT.node (hd.o_85 P) (PySem.W.BT.node (hd.o_120 P) PySem.W.BT.nil PySem.W.BT.nil) (PySem.W.BT.node (hd.o_158 P) PySem.W.BT.nil PySem.W.BT.nil)) (PySem.W.BT.node (hd.o_101 P) (PySem.W.BT.node (hd.o_139 P) PySem.W.BT.nil PySem.W.BT.nil) (PySem.W.BT.node (hd.o_177 P) PySem.W.BT.nil PySem.W.BT.nil)))))) (PySem.W.BT.node (hd.o_49 P) (PySem.W.BT.node (PySem.W.boot_o_4 P) (PySem.W.BT.node (PySem.W.boot_o_8 P) (PySem.W.BT.node (hd.o_53 P) (PySem.W.BT.node (hd.o_69 P) (PySem.W.BT.node (hd.o_107 P) (PySem.W.BT.node (hd.o_180 P) PySem.W.BT.nil PySem.W.BT.nil) PySem.W.BT.nil) (PySem.W.BT.node (hd.o_142 P) PySem.W.BT.nil PySem.W.BT.nil)) (PySem.W.BT.node (hd.o_88 P) (PySem.W.BT.node (hd.o_123 P) PySem.W.BT.nil PySem.W.BT.nil) (PySem.W.BT.node (hd.o_161 P) PySem.W.BT.nil PySem.W.BT.nil))) (PySem.W.BT.node (hd.o_61 P) (PySem.W.BT.node (hd.o_77 P) (PySem.W.BT.node (hd.o_115 P) (PySem.W.BT.node (hd.o_188 P) PySem.W.BT.nil PySem.W.BT.nil) PySem.W.BT.nil) (PySem.W.BT.node (hd.o_153 P) PySem.W.BT.nil PySem.W.BT.nil)) (PySem.W.BT.node (hd.o_96 P) (PySem.W.BT.node (hd.o_134 P) PySem.W.BT.nil PySem.W.BT.nil) (PySem.W.BT.node (hd.o_169 P) PySem.W.BT.nil PySem.W.BT.nil)))) (PySem.W.BT.node (hd.o_171 P) (PySem.W.BT.node (hd.o_57 P) (PySem.W.BT.node (hd.o_73 P) (PySem.W.BT.node (hd.o_111 P) (PySem.W.BT.node (hd.o_184 P) PySem.W.BT.nil PySem.W.BT.nil) PySem.W.BT.nil) (PySem.W.BT.node (hd.o_146 P) PySem.W.BT.nil PySem.W.BT.nil)) (PySem.W.BT.node (hd.o_92 P) (PySem.W.BT.node (hd.o_130 P) PySem.W.BT.nil PySem.W.BT.nil) (PySem.W.BT.node (hd.o_165 P) PySem.W.BT.nil PySem.W.BT.nil))) (PySem.W.BT.node (hd.o_65 P) (PySem.W.BT.node (hd.o_84 P) (PySem.W.BT.node (hd.o_119 P) PySem.W.BT.nil PySem.W.BT.nil) (PySem.W.BT.node (hd.o_157 P) PySem.W.BT.nil PySem.W.BT.nil)) (PySem.W.BT.node (hd.o_100 P) (PySem.W.BT.node (hd.o_138 P) PySem.W.BT.nil PySem.W.BT.nil) (PySem.W.BT.node (hd.o_176 P) PySem.W.BT.nil PySem.W.BT.nil))))) (PySem.W.BT.node (PySem.W.boot_o_6 P) (PySem.W.BT.node (PySem.W.boot_o_10 P) (PySem.W.BT.node (hd.o_55 P) (PySem.W.BT.node (hd.o_71 P) (PySem.W.BT.node (hd.o_109 P) (PySem.W.BT.node (hd.o_182 P) PySem.W.BT.nil PySem.W.BT.nil) PySem.W.BT.nil) (PySem.W.BT.node (hd.o_144 P) PySem.W.BT.nil PySem.W.BT.nil)) (PySem.W.BT.node (hd.o_90 P) (PySem.W.BT.node (hd.o_128 P) PySem.W.BT.nil PySem.W.BT.nil) (PySem.W.BT.node (hd.o_163 P) PySem.W.BT.nil PySem.W.BT.nil))) (PySem.W.BT.node (hd.o_63 P) (PySem.W.BT.node (hd.o_79 P) (PySem.W.BT.node (hd.o_117 P) (PySem.W.BT.node (hd.o_190 P) PySem.W.BT.nil PySem.W.BT.nil) PySem.W.BT.nil) (PySem.W.BT.node (hd.o_155 P) PySem.W.BT.nil PySem.W.BT.nil)) (PySem.W.BT.node (hd.o_98 P) (PySem.W.BT.node (hd.o_136 P) PySem.W.BT.nil PySem.W.BT.nil) (PySem.W.BT.node (hd.o_174 P) PySem.W.BT.nil PySem.W.BT.nil)))) (PySem.W.BT.node (hd.o_46 P) (PySem.W.BT.node (hd.o_59 P) (PySem.W.BT.node (hd.o_75 P) (PySem.W.BT.node (hd.o_113 P) (PySem.W.BT.node (hd.o_186 P) PySem.W.BT.nil PySem.W.BT.nil) PySem.W.BT.nil) (PySem.W.BT.node (hd.o_151 P) PySem.W.BT.nil PySem.W.BT.nil)) (PySem.W.BT.node (hd.o_94 P) (PySem.W.BT.node (hd.o_132 P) PySem.W.BT.nil PySem.W.BT.nil) (PySem.W.BT.node (hd.o_167 P) PySem.W.BT.nil PySem.W.BT.nil))) (PySem.W.BT.node (hd.o_67 P) (PySem.W.BT.node (hd.o_86 P) (PySem.W.BT.node (hd.o_121 P) PySem.W.BT.nil PySem.W.BT.nil) (PySem.W.BT.node (hd.o_159 P) PySem.W.BT.nil PySem.W.BT.nil)) (PySem.W.BT.node (hd.o_105 P) (PySem.W.BT.node (hd.o_140 P) PySem.W.BT.nil PySem.W.BT.nil) (PySem.W.BT.node (hd.o_178 P) PySem.W.BT.nil PySem.W.BT.nil))))))))
noncomputable abbrev hd.sts_192 : List PySem.Stmt := ((PySem.W.behindTheImports pE).drop 8).take 1
noncomputable abbrev hd.tree_213 : PySem.Params → PySem.W.BT := (fun (P : PySem.Params) => (PySem.W.BT.node (PySem.W.boot_o_0 P) (PySem.W.BT.node (PySem.W.boot_o_1 P) (PySem.W.BT.node (hd.o_192 P) (PySem.W.BT.node (PySem.W.boot_o_7 P) (PySem.W.BT.node (hd.o_52 P) (PySem.W.BT.node (hd.o_68 P) (PySem.W.BT.node (hd.o_106 P) (PySem.W.BT.node (hd.o_179 P) PySem.W.BT.nil PySem.W.BT.nil) PySem.W.BT.nil) (PySem.W.BT.node (hd.o_141 P) PySem.W.BT.nil PySem.W.BT.nil)) (PySem.W.BT.node (hd.o_87 P) (PySem.W.BT.node (hd.o_122 P) (PySem.W.BT.node (hd.o_198 P) PySem.W.BT.nil PySem.W.BT.nil) PySem.W.BT.nil) (PySem.W.BT.node (hd.o_160 P) PySem.W.BT.nil PySem.W.BT.nil))) (PySem.W.BT.node (hd.o_60 P) (PySem.W.BT.node (hd.o_172 P) (PySem.W.BT.node (hd.o_114 P) (PySem.W.BT.node (hd.o_187 P) PySem.W.BT.nil PySem.W.BT.nil) PySem.W.BT.nil) (PySem.W.BT.node (hd.o_152 P) PySem.W.BT.nil PySem.W.BT.nil)) (PySem.W.BT.node (hd.o_95 P) (PySem.W.BT.node (hd.o_133 P) (PySem.W.BT.node (hd.o_206 P) PySem.W.BT.nil PySem.W.BT.nil) PySem.W.BT.nil) (PySem.W.BT.node (hd.o_168 P) PySem.W.BT.nil PySem.W.BT.nil)))) (PySem.W.BT.node (hd.o_43 P) (PySem.W.BT.node (hd.o_56 P) (PySem.W.BT.node (hd.o_72 P) (PySem.W.BT.node (hd.o_110 P) (PySem.W.BT.node (hd.o_183 P) PySem.W.BT.nil PySem.W.BT.nil) PySem.W.BT.nil) (PySem.W.BT.node (hd.o_145 P) PySem.W.BT.nil PySem.W.BT.nil)) (PySem.W.BT.node (hd.o_91 P) (PySem.W.BT.node (hd.o_129 P) (PySem.W.BT.node (hd.o_202 P) PySem.W.BT.nil PySem.W.BT.nil) PySem.W.BT.nil) (PySem.W.BT.node (hd.o_164 P) PySem.W.BT.nil PySem.W.BT.nil))) (PySem.W.BT.node (hd.o_64 P) (PySem.W.BT.node (hd.o_83 P) (PySem.W.BT.node (hd.o_118 P) (PySem.W.BT.node (hd.o_191 P) PySem.W.BT.nil PySem.W.BT.nil) PySem.W.BT.nil) (PySem.W.BT.node (hd.o_156 P) PySem.W.BT.nil PySem.W.BT.nil)) (PySem.W.BT.node (hd.o_99 P) (PySem.W.BT.node (hd.o_137 P) (PySem.W.BT.node (hd.o_210 P) PySem.W.BT.nil PySem.W.BT.nil) PySem.W.BT.nil) (PySem.W.BT.node (hd.o_175 P) PySem.W.BT.nil PySem.W.BT.nil))))) (PySem.W.BT.node (PySem.W.boot_o_5 P) (PySem.W.BT.node (PySem.W.boot_o_9 P) (PySem.W.BT.node (hd.o_54 P) (PySem.W.BT.node (hd.o_70 P) (PySem.W.BT.node (hd.o_108 P) (PySem.W.BT.node (hd.o_181 P) PySem.W.BT.nil PySem.W.BT.nil) PySem.W.BT.nil) (PySem.W.BT.node (hd.o_143 P) PySem.W.BT.nil PySem.W.BT.nil)) (PySem.W.BT.node (hd.o_89 P) (PySem.W.BT.node (hd.o_124 P) (PySem.W.BT.node (hd.o_200 P) PySem.W.BT.nil PySem.W.BT.nil) PySem.W.BT.nil) (PySem.W.BT.node (hd.o_162 P) PySem.W.BT.nil PySem.W.BT.nil))) (PySem.W.BT.node (hd.o_62 P) (PySem.W.BT.node (hd.o_78 P) (PySem.W.BT.node (hd.o_116 P) (PySem.W.BT.node (hd.o_194 P) PySem.W.BT.nil PySem.W.BT.nil) PySem.W.BT.nil) (PySem.W.BT.node (hd.o_154 P) PySem.W.BT.nil PySem.W.BT.nil)) (PySem.W.BT.node (hd.o_97 P) (PySem.W.BT.node (hd.o_135 P) (PySem.W.BT.node (hd.o_208 P) PySem.W.BT.nil PySem.W.BT.nil) PySem.W.BT.nil) (PySem.W.BT.node (hd.o_173 P) PySem.W.BT.nil PySem.W.BT.nil)))) (PySem.W.BT.node (hd.o_45 P) (PySem.W.BT.node (hd.o_58 P) (PySem.W.BT.node (hd.o_74 P) (PySem.W.BT.node (hd.o_112 P) (PySem.W.BT.node (hd.o_185 P) PySem.W.BT.nil PySem.W.BT.nil) PySem.W.BT.nil) (PySem.W.BT.node (hd.o_147 P) PySem.W.BT.nil PySem.W.BT.nil)) (PySem.W.BT.node (hd.o_93 P) (PySem.W.BT.node (hd.o_131 P) (PySem.W.BT.node (hd.o_204 P) PySem.W.BT.nil PySem.W.BT.nil) PySem.W.BT.nil) (PySem.W.BT.node (hd.o_166 P) PySem.W.BT.nil PySem.W.BT.nil))) (PySem.W.BT.node (hd.o_66 P) (PySem.W.BT.node (hd.o_85 P) (PySem.W.BT.node (hd.o_120 P) (PySem.W.BT.node (hd.o_196 P) PySem.W.BT.nil PySem.W.BT.nil) PySem.W.BT.nil) (PySem.W.BT.node (hd.o_158 P) PySem.W.BT.nil PySem.W.BT.nil)) (PySem.W.BT.node (hd.o_101 P) (PySem.W.BT.node (hd.o_139 P) (PySem.W.BT.node (hd.o_212 P) PySem.W.BT.nil PySem.W.BT.nil) PySem.W.BT.nil) (PySem.W.BT.node (hd.o_177 P) PySem.W.BT.nil PySem.W.BT.nil)))))) (PySem.W.BT.node (hd.o_49 P) (PySem.W.BT.node (PySem.W.boot_o_4 P) (PySem.W.BT.node (PySem.W.boot_o_8 P) (PySem.W.BT.node (hd.o_53 P) (PySem.W.BT.node (hd.o_69 P) (PySem.W.BT.node (hd.o_107 P) (PySem.W.BT.node (hd.o_180 P) PySem.W.BT.nil PySem.W.BT.nil) PySem.W.BT.nil) (PySem.W.BT.node (hd.o_142 P) PySem.W.BT.nil PySem.W.BT.nil)) (PySem.W.BT.node (hd.o_88 P) (PySem.W.BT.node (hd.o_123 P) (PySem.W.BT.node (hd.o_199 P) PySem.W.BT.nil PySem.W.BT.nil) PySem.W.BT.nil) (PySem.W.BT.node (hd.o_161 P) PySem.W.BT.nil PySem.W.BT.nil))) (PySem.W.BT.node (hd.o_61 P) (PySem.W.BT.node (hd.o_77 P) (PySem.W.BT.node (hd.o_115 P) (PySem.W.BT.node (hd.o_188 P) PySem.W.BT.nil PySem.W.BT.nil) PySem.W.BT.nil) (PySem.W.BT.node (hd.o_153 P) PySem.W.BT.nil PySem.W.BT.nil)) (PySem.W.BT.node (hd.o_96 P) (PySem.W.BT.node (hd.o_134 P) (PySem.W.BT.node (hd.o_207 P) PySem.W.BT.nil PySem.W.BT.nil) PySem.W.BT.nil) (PySem.W.BT.node (hd.o_169 P) PySem.W.BT.nil PySem.W.BT.nil)))) (PySem.W.BT.node (hd.o_193 P) (PySem.W.BT.node (hd.o_57 P) (PySem.W.BT.node (hd.o_73 P) (PySem.W.BT.node (hd.o_111 P) (PySem.W.BT.node (hd.o_184 P) PySem.W.BT.nil PySem.W.BT.nil) PySem.W.BT.nil) (PySem.W.BT.node (hd.o_146 P) PySem.W.BT.nil PySem.W.BT.nil)) (PySem.W.BT.node (hd.o_92 P) (PySem.W.BT.node (hd.o_130 P) (PySem.W.BT.node (hd.o_203 P) PySem.W.BT.nil PySem.W.BT.nil) PySem.W.BT.nil) (PySem.W.BT.node (hd.o_165 P) PySem.W.BT.nil PySem.W.BT.nil))) (PySem.W.BT.node (hd.o_65 P) (PySem.W.BT.node (hd.o_84 P) (PySem.W.BT.node (hd.o_119 P) (PySem.W.BT.node (hd.o_195 P) PySem.W.BT.nil PySem.W.BT.nil) PySem.W.BT.nil) (PySem.W.BT.node (hd.o_157 P) PySem.W.BT.nil PySem.W.BT.nil)) (PySem.W.BT.node (hd.o_100 P) (PySem.W.BT.node (hd.o_138 P) (PySem.W.BT.node (hd.o_211 P) PySem.W.BT.nil PySem.W.BT.nil) PySem.W.BT.nil) (PySem.W.BT.node (hd.o_176 P) PySem.W.BT.nil PySem.W.BT.nil))))) (PySem.W.BT.node (PySem.W.boot_o_6 P) (PySem.W.BT.node (PySem.W.boot_o_10 P) (PySem.W.BT.node (hd.o_55 P) (PySem.W.BT.node (hd.o_71 P) (PySem.W.BT.node (hd.o_109 P) (PySem.W.BT.node (hd.o_182 P) PySem.W.BT.nil PySem.W.BT.nil) PySem.W.BT.nil) (PySem.W.BT.node (hd.o_144 P) PySem.W.BT.nil PySem.W.BT.nil)) (PySem.W.BT.node (hd.o_90 P) (PySem.W.BT.node (hd.o_128 P) (PySem.W.BT.node (hd.o_201 P) PySem.W.BT.nil PySem.W.BT.nil) PySem.W.BT.nil) (PySem.W.BT.node (hd.o_163 P) PySem.W.BT.nil PySem.W.BT.nil))) (PySem.W.BT.node (hd.o_63 P) (PySem.W.BT.node (hd.o_79 P) (PySem.W.BT.node (hd.o_117 P) (PySem.W.BT.node (hd.o_190 P) PySem.W.BT.nil PySem.W.BT.nil) PySem.W.BT.nil) (PySem.W.BT.node (hd.o_155 P) PySem.W.BT.nil PySem.W.BT.nil)) (PySem.W.BT.node (hd.o_98 P) (PySem.W.BT.node (hd.o_136 P) (PySem.W.BT.node (hd.o_209 P) PySem.W.BT.nil PySem.W.BT.nil) PySem.W.BT.nil) (PySem.W.BT.node (hd.o_174 P) PySem.W.BT.nil PySem.W.BT.nil)))) (PySem.W.BT.node (hd.o_46 P) (PySem.W.BT.node (hd.o_59 P) (PySem.W.BT.node (hd.o_75 P) (PySem.W.BT.node (hd.o_113 P) (PySem.W.BT.node (hd.o_186 P) PySem.W.BT.nil PySem.W.BT.nil) PySem.W.BT.nil) (PySem.W.BT.node (hd.o_151 P) PySem.W.BT.nil PySem.W.BT.nil)) (PySem.W.BT.node (hd.o_94 P) (PySem.W.BT.node (hd.o_132 P) (PySem.W.BT.node (hd.o_205 P) PySem.W.BT.nil PySem.W.BT.nil) PySem.W.BT.nil) (PySem.W.BT.node (hd.o_167 P) PySem.W.BT.nil PySem.W.BT.nil))) (PySem.W.BT.node (hd.o_67 P) (PySem.W.BT.node (hd.o_86 P) (PySem.W.BT.node (hd.o_121 P) (PySem.W.BT.node (hd.o_197 P) PySem.W.BT.nil PySem.W.BT.nil) PySem.W.BT.nil) (PySem.W.BT.node (hd.o_159 P) PySem.W.BT.nil PySem.W.BT.nil)) (PySem.W.BT.node (hd.o_105 P) (PySem.W.BT.node (hd.o_140 P) (PySem.W.BT.node (hd.o_213 P) PySem.W.BT.nil PySem.W.BT.nil) PySem.W.BT.nil) (PySem.W.BT.node (hd.o_178 P) PySem.W.BT.nil PySem.W.BT.nil))))))))
noncomputable abbrev hd.sts_214 : List PySem.Stmt := ((PySem.W.behindTheImports pE).drop 9).take 1
noncomputable abbrev hd.tree_228 : PySem.Params → PySem.W.BT := (fun (P : PySem.Params) => (PySem.W.BT.node (PySem.W.boot_o_0 P) (PySem.W.BT.node (PySem.W.boot_o_1 P) (PySem.W.BT.node (hd.o_214 P) (PySem.W.BT.node (PySem.W.boot_o_7 P) (PySem.W.BT.node (hd.o_52 P) (PySem.W.BT.node (hd.o_68 P) (PySem.W.BT.node (hd.o_106 P) (PySem.W.BT.node (hd.o_179 P) PySem.W.BT.nil PySem.W.BT.nil) PySem.W.BT.nil) (PySem.W.BT.node (hd.o_141 P) (PySem.W.BT.node (hd.o_217 P) PySem.W.BT.nil PySem.W.BT.nil) PySem.W.BT.nil)) (PySem.W.BT.node (hd.o_87 P) (PySem.W.BT.node (hd.o_122 P) (PySem.W.BT.node (hd.o_198 P) PySem.W.BT.nil PySem.W.BT.nil) PySem.W.BT.nil) (PySem.W.BT.node (hd.o_160 P) PySem.W.BT.nil PySem.W.BT.nil))) (PySem.W.BT.node (hd.o_60 P) (PySem.W.BT.node (hd.o_172 P) (PySem.W.BT.node (hd.o_114 P) (PySem.W.BT.node (hd.o_187 P) PySem.W.BT.nil PySem.W.BT.nil) PySem.W.BT.nil) (PySem.W.BT.node (hd.o_152 P) (PySem.W.BT.node (hd.o_225 P) PySem.W.BT.nil PySem.W.BT.nil) PySem.W.BT.nil)) (PySem.W.BT.node (hd.o_95 P) (PySem.W.BT.node (hd.o_133 P) (PySem.W.BT.node (hd.o_206 P) PySem.W.BT.nil PySem.W.BT.nil) PySem.W.BT.nil) (PySem.W.BT.node (hd.o_168 P) PySem.W.BT.nil PySem.W.BT.nil)))) (PySem.W.BT.node (hd.o_43 P) (PySem.W.BT.node (hd.o_56 P) (PySem.W.BT.node (hd.o_72 P) (PySem.W.BT.node (hd.o_110 P) (PySem.W.BT.node (hd.o_183 P) PySem.W.BT.nil PySem.W.BT.nil) PySem.W.BT.nil) (PySem.W.BT.node (hd.o_145 P) (PySem.W.BT.node (hd.o_221 P) PySem.W.BT.nil PySem.W.BT.nil) PySem.W.BT.nil)) (PySem.W.BT.node (hd.o_91 P) (PySem.W.BT.node (hd.o_129 P) (PySem.W.BT.node (hd.o_202 P) PySem.W.BT.nil PySem.W.BT.nil) PySem.W.BT.nil) (PySem.W.BT.node (hd.o_164 P) PySem.W.BT.nil PySem.W.BT.nil))) (PySem.W.BT.node (hd.o_64 P) (PySem.W.BT.node (hd.o_83 P) (PySem.W.BT.node (hd.o_118 P) (PySem.W.BT.node (hd.o_191 P) PySem.W.BT.nil PySem.W.BT.nil) PySem.W.BT.nil) (PySem.W.BT.node (hd.o_156 P) PySem.W.BT.nil PySem.W.BT.nil)) (PySem.W.BT.node (hd.o_99 P) (PySem.W.BT.node (hd.o_137 P) (PySem.W.BT.node (hd.o_210 P) PySem.W.BT.nil PySem.W.BT.nil) PySem.W.BT.nil) (PySem.W.BT.node (hd.o_175 P) PySem.W.BT.nil PySem.W.BT.nil))))) (PySem.W.BT.node (PySem.W.boot_o_5 P) (PySem.W.BT.node (PySem.W.boot_o_9 P) (PySem.W.BT.node (hd.o_54 P) (PySem.W.BT.node (hd.o_70 P) (PySem.W.BT.node (hd.o_108 P) (PySem.W.BT.node (hd.o_181 P) PySem.W.BT.nil PySem.W.BT.nil) PySem.W.BT.nil) (PySem.W.BT.node (hd.o_143 P) (PySem.W.BT.node (hd.o_219 P) PySem.W.BT.nil PySem.W.BT.nil) PySem.W.BT.nil)) (PySem.W.BT.node (hd.o_89 P) (PySem.W.BT.node (hd.o_124 P) (PySem.W.BT.node (hd.o_200 P) PySem.W.BT.nil PySem.W.BT.nil) PySem.W.BT.nil) (PySem.W.BT.node (hd.o_162 P) PySem.W.BT.nil PySem.W.BT.nil))) (PySem.W.BT.node (hd.o_62 P) (PySem.W.BT.node (hd.o_78 P) (PySem.W.BT.node (hd.o_116 P) (PySem.W.BT.node (hd.o_216 P) PySem.W.BT.nil PySem.W.BT.nil) PySem.W.BT.nil) (PySem.W.BT.node (hd.o_154 P) (PySem.W.BT.node (hd.o_227 P) PySem.W.BT.nil PySem.W.BT.nil) PySem.W.BT.nil)) (PySem.W.BT.node (hd.o_97 P) (PySem.W.BT.node (hd.o_135 P) (PySem.W.BT.node (hd.o_208 P) PySem.W.BT.nil PySem.W.BT.nil) PySem.W.BT.nil) (PySem.W.BT.node (hd.o_173 P) PySem.W.BT.nil PySem.W.BT.nil)))) (PySem.W.BT.node (hd.o_45 P) (PySem.W.BT.node (hd.o_58 P) (PySem.W.BT.node (hd.o_74 P) (PySem.W.BT.node (hd.o_112 P) (PySem.W.BT.node (hd.o_185 P) PySem.W.BT.nil PySem.W.BT.nil) PySem.W.BT.nil) (PySem.W.BT.node (hd.o_147 P) (PySem.W.BT.node (hd.o_223 P) PySem.W.BT.nil PySem.W.BT.nil) PySem.W.BT.nil)) (PySem.W.BT.node (hd.o_93 P) (PySem.W.BT.node (hd.o_131 P) (PySem.W.BT.node (hd.o_204 P) PySem.W.BT.nil PySem.W.BT.nil) PySem.W.BT.nil) (PySem.W.BT.node (hd.o_166 P) PySem.W.BT.nil PySem.W.BT.nil))) (PySem.W.BT.node (hd.o_66 P) (PySem.W.BT.node (hd.o_85 P) (PySem.W.BT.node (hd.o_120 P) (PySem.W.BT.node (hd.o_196 P) PySem.W.BT.nil PySem.W.BT.nil) PySem.W.BT.nil) (PySem.W.BT.node (hd.o_158 P) PySem.W.BT.nil PySem.W.BT.nil)) (PySem.W.BT.node (hd.o_101 P) (PySem.W.BT.node (hd.o_139 P) (PySem.W.BT.node (hd.o_212 P) PySem.W.BT.nil PySem.W.BT.nil) PySem.W.BT.nil) (PySem.W.BT.node (hd.o_177 P) PySem.W.BT.nil PySem.W.BT.nil)))))) (PySem.W.BT.node (hd.o_49 P) (PySem.W.BT.node (PySem.W.boot_o_4 P) (PySem.W.BT.node (PySem.W.boot_o_8 P) (PySem.W.BT.node (hd.o_53 P) (PySem.W.BT.node (hd.o_69 P) (PySem.W.BT.node (hd.o_107 P) (PySem.W.BT.node (hd.o_180 P) PySem.W.BT.nil PySem.W.BT.nil) PySem.W.BT.nil) (PySem.W.BT.node (hd.o_142 P) (PySem.W.BT.node (hd.o_218 P) PySem.W.BT.nil PySem.W.BT.nil) PySem.W.BT.nil)) (PySem.W.BT.node (hd.o_88 P) (PySem.W.BT.node (hd.o_123 P) (PySem.W.BT.node (hd.o_199 P) PySem.W.BT.nil PySem.W.BT.nil) PySem.W.BT.nil) (PySem.W.BT.node (hd.o_161 P) PySem.W.BT.nil PySem.W.BT.nil))) (PySem.W.BT.node (hd.o_61 P) (PySem.W.BT.node (hd.o_77 P) (PySem.W.BT.node (hd.o_115 P) (PySem.W.BT.node (hd.o_188 P) PySem.W.BT.nil PySem.W.BT.nil) PySem.W.BT.nil) (PySem.W.BT.node (hd.o_153 P) (PySem.W.BT.node (hd.o_226 P) PySem.W.BT.nil PySem.W.BT.nil) PySem.W.BT.nil)) (PySem.W.BT.node (hd.o_96 P) (PySem.W.BT.node (hd.o_134 P) (PySem.W.BT.node (hd.o_207 P) PySem.W.BT.nil PySem.W.BT.nil) PySem.W.BT.nil) (PySem.W.BT.node (hd.o_169 P) PySem.W.BT.nil PySem.W.BT.nil)))) (PySem.W.BT.node (hd.o_215 P) (PySem.W.BT.node (hd.o_57 P) (PySem.W.BT.node (hd.o_73 P) (PySem.W.BT.node (hd.o_111 P) (PySem.W.BT.node (hd.o_184 P) PySem.W.BT.nil PySem.W.BT.nil) PySem.W.BT.nil) (PySem.W.BT.node (hd.o_146 P) (PySem.W.BT.node (hd.o_222 P) PySem.W.BT.nil PySem.W.BT.nil) PySem.W.BT.nil)) (PySem.W.BT.node (hd.o_92 P) (PySem.W.BT.node (hd.o_130 P) (PySem.W.BT.node (hd.o_203 P) PySem.W.BT.nil PySem.W.BT.nil) PySem.W.BT.nil) (PySem.W.BT.node (hd.o_165 P) PySem.W.BT.nil PySem.W.BT.nil))) (PySem.W.BT.node (hd.o_65 P) (PySem.W.BT.node (hd.o_84 P) (PySem.W.BT.node (hd.o_119 P) (PySem.W.BT.node (hd.o_195 P) PySem.W.BT.nil PySem.W.BT.nil) PySem.W.BT.nil) (PySem.W.BT.node (hd.o_157 P) PySem.W.BT.nil PySem.W.BT.nil)) (PySem.W.BT.node (hd.o_100 P) (PySem.W.BT.node (hd.o_138 P) (PySem.W.BT.node (hd.o_211 P) PySem.W.BT.nil PySem.W.BT.nil) PySem.W.BT.nil) (PySem.W.BT.node (hd.o_176 P) PySem.W.BT.nil PySem.W.BT.nil))))) (PySem.W.BT.node (PySem.W.boot_o_6 P) (PySem.W.BT.node (PySem.W.boot_o_10 P) (PySem.W.BT.node (hd.o_55 P) (PySem.W.BT.node (hd.o_71 P) (PySem.W.BT.node (hd.o_109 P) (PySem.W.BT.node (hd.o_182 P) PySem.W.BT.nil PySem.W.BT.nil) PySem.W.BT.nil) (PySem.W.BT.node (hd.o_144 P) (PySem.W.BT.node (hd.o_220 P) PySem.W.BT.nil PySem.W.BT.nil) PySem.W.BT.nil)) (PySem.W.BT.node (hd.o_90 P) (PySem.W.BT.node (hd.o_128 P) (PySem.W.BT.node (hd.o_201 P) PySem.W.BT.nil PySem.W.BT.nil) PySem.W.BT.nil) (PySem.W.BT.node (hd.o_163 P) PySem.W.BT.nil PySem.W.BT.nil))) (PySem.W.BT.node (hd.o_63 P) (PySem.W.BT.node (hd.o_79 P) (PySem.W.BT.node (hd.o_117 P) (PySem.W.BT.node (hd.o_190 P) PySem.W.BT.nil PySem.W.BT.nil) PySem.W.BT.nil) (PySem.W.BT.node (hd.o_155 P) (PySem.W.BT.node (hd.o_228 P) PySem.W.BT.nil PySem.W.BT.nil) PySem.W.BT.nil)) (PySem.W.BT.node (hd.o_98 P) (PySem.W.BT.node (hd.o_136 P) (PySem.W.BT.node (hd.o_209 P) PySem.W.BT.nil PySem.W.BT.nil) PySem.W.BT.nil) (PySem.W.BT.node (hd.o_174 P) PySem.W.BT.nil PySem.W.BT.nil)))) (PySem.W.BT.node (hd.o_46 P) (PySem.W.BT.node (hd.o_59 P) (PySem.W.BT.node (hd.o_75 P) (PySem.W.BT.node (hd.o_113 P) (PySem.W.BT.node (hd.o_186 P) PySem.W.BT.nil PySem.W.BT.nil) PySem.W.BT.nil) (PySem.W.BT.node (hd.o_151 P) (PySem.W.BT.node (hd.o_224 P) PySem.W.BT.nil PySem.W.BT.nil) PySem.W.BT.nil)) (PySem.W.BT.node (hd.o_94 P) (PySem.W.BT.node (hd.o_132 P) (PySem.W.BT.node (hd.o_205 P) PySem.W.BT.nil PySem.W.BT.nil) PySem.W.BT.nil) (PySem.W.BT.node (hd.o_167 P) PySem.W.BT.nil PySem.W.BT.nil))) (PySem.W.BT.node (hd.o_67 P) (PySem.W.BT.node (hd.o_86 P) (PySem.W.BT.node (hd.o_121 P) (PySem.W.BT.node (hd.o_197 P) PySem.W.BT.nil PySem.W.BT.nil) PySem.W.BT.nil) (PySem.W.BT.node (hd.o_159 P) PySem.W.BT.nil PySem.W.BT.nil)) (PySem.W.BT.node (hd.o_105 P) (PySem.W.BT.node (hd.o_140 P) (PySem.W.BT.node (hd.o_213 P) PySem.W.BT.nil PySem.W.BT.nil) PySem.W.BT.nil) (PySem.W.BT.node (hd.o_178 P) PySem.W.BT.nil PySem.W.BT.nil))))))))
noncomputable abbrev hd.sts_229 : List PySem.Stmt := ((PySem.W.behindTheImports pE).drop 10).take 6
noncomputable abbrev hd.tree_278 : PySem.Params → PySem.W.BT := (fun (P : PySem.Params) => (PySem.W.BT.node (PySem.W.boot_o_0 P) (PySem.W.BT.node (PySem.W.boot_o_1 P) (PySem.W.BT.node (hd.o_229 P) (PySem.W.BT.node (PySem.W.boot_o_7 P) (PySem.W.BT.node (hd.o_52 P) (PySem.W.BT.node (hd.o_68 P) (PySem.W.BT.node (hd.o_106 P) (PySem.W.BT.node (hd.o_179 P) PySem.W.BT.nil PySem.W.BT.nil) (PySem.W.BT.node (hd.o_252 P) PySem.W.BT.nil PySem.W.BT.nil)) (PySem.W.BT.node (hd.o_141 P) (PySem.W.BT.node (hd.o_217 P) PySem.W.BT.nil PySem.W.BT.nil) PySem.W.BT.nil)) (PySem.W.BT.node (hd.o_87 P) (PySem.W.BT.node (hd.o_122 P) (PySem.W.BT.node (hd.o_198 P) PySem.W.BT.nil PySem.W.BT.nil) (PySem.W.BT.node (hd.o_268 P) PySem.W.BT.nil PySem.W.BT.nil)) (PySem.W.BT.node (hd.o_160 P) (PySem.W.BT.node (hd.o_236 P) PySem.W.BT.nil PySem.W.BT.nil) PySem.W.BT.nil))) (PySem.W.BT.node (hd.o_60 P) (PySem.W.BT.node (hd.o_172 P) (PySem.W.BT.node (hd.o_114 P) (PySem.W.BT.node (hd.o_187 P) PySem.W.BT.nil PySem.W.BT.nil) (PySem.W.BT.node (hd.o_260 P) PySem.W.BT.nil PySem.W.BT.nil)) (PySem.W.BT.node (hd.o_152 P) (PySem.W.BT.node (hd.o_225 P) PySem.W.BT.nil PySem.W.BT.nil) PySem.W.BT.nil)) (PySem.W.BT.node (hd.o_95 P) (PySem.W.BT.node (hd.o_133 P) (PySem.W.BT.node (hd.o_206 P) PySem.W.BT.nil PySem.W.BT.nil) (PySem.W.BT.node (hd.o_276 P) PySem.W.BT.nil PySem.W.BT.nil)) (PySem.W.BT.node (hd.o_168 P) (PySem.W.BT.node (hd.o_244 P) PySem.W.BT.nil PySem.W.BT.nil) PySem.W.BT.nil)))) (PySem.W.BT.node (hd.o_43 P) (PySem.W.BT.node (hd.o_56 P) (PySem.W.BT.node (hd.o_72 P) (PySem.W.BT.node (hd.o_110 P) (PySem.W.BT.node (hd.o_183 P) PySem.W.BT.nil PySem.W.BT.nil) (PySem.W.BT.node (hd.o_256 P) PySem.W.BT.nil PySem.W.BT.nil)) (PySem.W.BT.node (hd.o_145 P) (PySem.W.BT.node (hd.o_221 P) PySem.W.BT.nil PySem.W.BT.nil) PySem.W.BT.nil)) (PySem.W.BT.node (hd.o_91 P) (PySem.W.BT.node (hd.o_129 P) (PySem.W.BT.node (hd.o_202 P) PySem.W.BT.nil PySem.W.BT.nil) (PySem.W.BT.node (hd.o_272 P) PySem.W.BT.nil PySem.W.BT.nil)) (PySem.W.BT.node (hd.o_164 P) (PySem.W.BT.node (hd.o_240 P) PySem.W.BT.nil PySem.W.BT.nil) PySem.W.BT.nil))) (PySem.W.BT.node (hd.o_64 P) (PySem.W.BT.node (hd.o_83 P) (PySem.W.BT.node (hd.o_118 P) (PySem.W.BT.node (hd.o_191 P) PySem.W.BT.nil PySem.W.BT.nil) (PySem.W.BT.node (hd.o_264 P) PySem.W.BT.nil PySem.W.BT.nil)) (PySem.W.BT.node (hd.o_156 P) (PySem.W.BT.node (hd.o_232 P) PySem.W.BT.nil PySem.W.BT.nil) PySem.W.BT.nil)) (PySem.W.BT.node (hd.o_99 P) (PySem.W.BT.node (hd.o_137 P) (PySem.W.BT.node (hd.o_210 P) PySem.W.BT.nil PySem.W.BT.nil) PySem.W.BT.nil) (PySem.W.BT.node (hd.o_175 P) (PySem.W.BT.node (hd.o_248 P) PySem.W.BT.nil PySem.W.BT.nil) PySem.W.BT.nil))))) (PySem.W.BT.node (PySem.W.boot_o_5 P) (PySem.W.BT.node (PySem.W.boot_o_9 P) (PySem.W.BT.node (hd.o_54 P) (PySem.W.BT.node (hd.o_70 P) (PySem.W.BT.node (hd.o_108 P) (PySem.W.BT.node (hd.o_181 P) PySem.W.BT.nil PySem.W.BT.nil) (PySem.W.BT.node (hd.o_254 P) PySem.W.BT.nil PySem.W.BT.nil)) (PySem.W.BT.node (hd.o_143 P) (PySem.W.BT.node (hd.o_219 P) PySem.W.BT.nil PySem.W.BT.nil) PySem.W.BT.nil)) (PySem.W.BT.node (hd.o_89 P) (PySem.W.BT.node (hd.o_124 P) (PySem.W.BT.node (hd.o_200 P) PySem.W.BT.nil PySem.W.BT.nil) (PySem.W.BT.node (hd.o_270 P) PySem.W.BT.nil PySem.W.BT.nil)) (PySem.W.BT.node (hd.o_162 P) (PySem.W.BT.node (hd.o_238 P) PySem.W.BT.nil PySem.W.BT.nil) PySem.W.BT.nil))) (PySem.W.BT.node (hd.o_62 P) (PySem.W.BT.node (hd.o_78 P) (PySem.W.BT.node (hd.o_116 P) (PySem.W.BT.node (hd.o_231 P) PySem.W.BT.nil PySem.W.BT.nil) (PySem.W.BT.node (hd.o_262 P) PySem.W.BT.nil PySem.W.BT.nil)) (PySem.W.BT.node (hd.o_154 P) (PySem.W.BT.node (hd.o_227 P) PySem.W.BT.nil PySem.W.BT.nil) PySem.W.BT.nil)) (PySem.W.BT.node (hd.o_97 P) (PySem.W.BT.node (hd.o_135 P) (PySem.W.BT.node (hd.o_208 P) PySem.W.BT.nil PySem.W.BT.nil) (PySem.W.BT.node (hd.o_278 P) PySem.W.BT.nil PySem.W.BT.nil)) (PySem.W.BT.node (hd.o_173 P) (PySem.W.BT.node (hd.o_246 P) PySem.W.BT.nil PySem.W.BT.nil) PySem.W.BT.nil)))) (PySem.W.BT.node (hd.o_45 P) (PySem.W.BT.node (hd.o_58 P) (PySem.W.BT.node (hd.o_74 P) (PySem.W.BT.node (hd.o_112 P) (PySem.W.BT.node (hd.o_185 P) PySem.W.BT.nil PySem.W.BT.nil) (PySem.W.BT.node (hd.o_258 P) PySem.W.BT.nil PySem.W.BT.nil)) (PySem.W.BT.node (hd.o_147 P) (PySem.W.BT.node (hd.o_223 P) PySem.W.BT.nil PySem.W.BT.nil) PySem.W.BT.nil)) (PySem.W.BT.node (hd.o_93 P) (PySem.W.BT.node (hd.o_131 P) (PySem.W.BT.node (hd.o_204 P) PySem.W.BT.nil PySem.W.BT.nil) (PySem.W.BT.node (hd.o_274 P) PySem.W.BT.nil PySem.W.BT.nil)) (PySem.W.BT.node (hd.o_166 P) (PySem.W.BT.node (hd.o_242 P) PySem.W.BT.nil PySem.W.BT.nil) PySem.W.BT.nil))) (PySem.W.BT.node (hd.o_66 P) (PySem.W.BT.node (hd.o_85 P) (PySem.W.BT.node (hd.o_120 P) (PySem.W.BT.node (hd.o_196 P) PySem.W.BT.nil PySem.W.BT.nil) (PySem.W.BT.node (hd.o_266 P) PySem.W.BT.nil PySem.W.BT.nil)) (PySem.W.BT.node (hd.o_158 P) (PySem.W.BT.node (hd.o_234 P) PySem.W.BT.nil PySem.W.BT.nil) PySem.W.BT.nil)) (PySem.W.BT.node (hd.o_101 P) (PySem.W.BT.node (hd.o_139 P) (PySem.W.BT.node (hd.o_212 P) PySem.W.BT.nil PySem.W.BT.nil) PySem.W.BT.nil) (PySem.W.BT.node (hd.o_177 P) (PySem.W.BT.node (hd.o_250 P) PySem.W.BT.nil PySem.W.BT.nil) PySem.W.BT.nil)))))) (PySem.W.BT.node (hd.o_49 P) (PySem.W.BT.node (PySem.W.boot_o_4 P) (PySem.W.BT.node (PySem.W.boot_o_8 P) (PySem.W.BT.node (hd.o_53 P) (PySem.W.BT.node (hd.o_69 P) (PySem.W.BT.node (hd.o_107 P) (PySem.W.BT.node (hd.o_180 P) PySem.W.BT.nil PySem.W.BT.nil) (PySem.W.BT.node (hd.o_253 P) PySem.W.BT.nil PySem.W.BT.nil)) (PySem.W.BT.node (hd.o_142 P) (PySem.W.BT.node (hd.o_218 P) PySem.W.BT.nil PySem.W.BT.nil) PySem.W.BT.nil)) (PySem.W.BT.node (hd.o_88 P) (PySem.W.BT.node (hd.o_123 P) (PySem.W.BT.node (hd.o_199 P) PySem.W.BT.nil PySem.W.BT.nil) (PySem.W.BT.node (hd.o_269 P) PySem.W.BT.nil PySem.W.BT.nil)) (PySem.W.BT.node (hd.o_161 P) (PySem.W.BT.node (hd.o_237 P) PySem.W.BT.nil PySem.W.BT.nil) PySem.W.BT.nil))) (PySem.W.BT.node (hd.o_61 P) (PySem.W.BT.node (hd.o_77 P) (PySem.W.BT.node (hd.o_115 P) (PySem.W.BT.node (hd.o_188 P) PySem.W.BT.nil PySem.W.BT.nil) (PySem.W.BT.node (hd.o_261 P) PySem.W.BT.nil PySem.W.BT.nil)) (PySem.W.BT.node (hd.o_153 P) (PySem.W.BT.node (hd.o_226 P) PySem.W.BT.nil PySem.W.BT.nil) PySem.W.BT.nil)) (PySem.W.BT.node (hd.o_96 P) (PySem.W.BT.node (hd.o_134 P) (PySem.W.BT.node (hd.o_207 P) PySem.W.BT.nil PySem.W.BT.nil) (PySem.W.BT.node (hd.o_277 P) PySem.W.BT.nil PySem.W.BT.nil)) (PySem.W.BT.node (hd.o_169 P) (PySem.W.BT.node (hd.o_245 P) PySem.W.BT.nil PySem.W.BT.nil) PySem.W.BT.nil)))) (PySem.W.BT.node (hd.o_230 P) (PySem.W.BT.node (hd.o_57 P) (PySem.W.BT.node (hd.o_73 P) (PySem.W.BT.node (hd.o_111 P) (PySem.W.BT.node (hd.o_184 P) PySem.W.BT.nil PySem.W.BT.nil) (PySem.W.BT.node (hd.o_257 P) PySem.W.BT.nil PySem.W.BT.nil)) (PySem.W.BT.node (hd.o_146 P) (PySem.W.BT.node (hd.o_222 P) PySem.W.BT.nil PySem.W.BT.nil) PySem.W.BT.nil)) (PySem.W.BT.node (hd.o_92 P) (PySem.W.BT.node (hd.o_130 P) (PySem.W.BT.node (hd.o_203 P) PySem.W.BT.nil PySem.W.BT.nil) (PySem.W.BT.node (hd.o_273 P) PySem.W.BT.nil PySem.W.BT.nil)) (PySem.W.BT.node (hd.o_165 P) (PySem.W.BT.node (hd.o_241 P) PySem.W.BT.nil PySem.W.BT.nil) PySem.W.BT.nil))) (PySem.W.BT.node (hd.o_65 P) (PySem.W.BT.node (hd.o_84 P) (PySem.W.BT.node (hd.o_119 P) (PySem.W.BT.node (hd.o_195 P) PySem.W.BT.nil PySem.W.BT.nil) (PySem.W.BT.node (hd.o_265 P) PySem.W.BT.nil PySem.W.BT.nil)) (PySem.W.BT.node (hd.o_157 P) (PySem.W.BT.node (hd.o_233 P) PySem.W.BT.nil PySem.W.BT.nil) PySem.W.BT.nil)) (PySem.W.BT.node (hd.o_100 P) (PySem.W.BT.node (hd.o_138 P) (PySem.W.BT.node (hd.o_211 P) PySem.W.BT.nil PySem.W.BT.nil) PySem.W.BT.nil) (PySem.W.BT.node (hd.o_176 P) (PySem.W.BT.node (hd.o_249 P) PySem.W.BT.nil PySem.W.BT.nil) PySem.W.BT.nil))))) (PySem.W.BT.node (PySem.W.boot_o_6 P) (PySem.W.BT.node (PySem.W.boot_o_10 P) (PySem.W.BT.node (hd.o_55 P) (PySem.W.BT.node (hd.o_71 P) (PySem.W.BT.node (hd.o_109 P) (PySem.W.BT.node (hd.o_182 P) PySem.W.BT.nil PySem.W.BT.nil) (PySem.W.BT.node (hd.o_255 P) PySem.W.BT.nil PySem.W.BT.nil)) (PySem.W.BT.node (hd.o_144 P) (PySem.W.BT.node (hd.o_220 P) PySem.W.BT.nil PySem.W.BT.nil) PySem.W.BT.nil)) (PySem.W.BT.node (hd.o_90 P) (PySem.W.BT.node (hd.o_128 P) (PySem.W.BT.node (hd.o_201 P) PySem.W.BT.nil PySem.W.BT.nil) (PySem.W.BT.node (hd.o_271 P) PySem.W.BT.nil PySem.W.BT.nil)) (PySem.W.BT.node (hd.o_163 P) (PySem.W.BT.node (hd.o_239 P) PySem.W.BT.nil PySem.W.BT.nil) PySem.W.BT.nil))) (PySem.W.BT.node (hd.o_63 P) (PySem.W.BT.node (hd.o_79 P) (PySem.W.BT.node (hd.o_117 P) (PySem.W.BT.node (hd.o_190 P) PySem.W.BT.nil PySem.W.BT.nil) (PySem.W.BT.node (hd.o_263 P) PySem.W.BT.nil PySem.W.BT.nil)) (PySem.W.BT.node (hd.o_155 P) (PySem.W.BT.node (hd.o_228 P) PySem.W.BT.nil PySem.W.BT.nil) PySem.W.BT.nil)) (PySem.W.BT.node (hd.o_98 P) (PySem.W.BT.node (hd.o_136 P) (PySem.W.BT.node (hd.o_209 P) PySem.W.BT.nil PySem.W.BT.nil) PySem.W.BT.nil) (PySem.W.BT.node (hd.o_174 P) (PySem.W.BT.node (hd.o_247 P) PySem.W.BT.nil PySem.W.BT.nil) PySem.W.BT.nil)))) (PySem.W.BT.node (hd.o_46 P) (PySem.W.BT.node (hd.o_59 P) (PySem.W.BT.node (hd.o_75 P) (PySem.W.BT.node (hd.o_113 P) (PySem.W.BT.node (hd.o_186 P) PySem.W.BT.nil PySem.W.BT.nil) (PySem.W.BT.node (hd.o_259 P) PySem.W.BT.nil PySem.W.BT.nil)) (PySem.W.BT.node (hd.o_151 P) (PySem.W.BT.node (hd.o_224 P) PySem.W.BT.nil PySem.W.BT.nil) PySem.W.BT.nil)) (PySem.W.BT.node (hd.o_94 P) (PySem.W.BT.node (hd.o_132 P) (PySem.W.BT.node (hd.o_205 P) PySem.W.BT.nil PySem.W.BT.nil) (PySem.W.BT.node (hd.o_275 P) PySem.W.BT.nil PySem.W.BT.nil)) (PySem.W.BT.node (hd.o_167 P) (PySem.W.BT.node (hd.o_243 P) PySem.W.BT.nil PySem.W.BT.nil) PySem.W.BT.nil))) (PySem.W.BT.node (hd.o_67 P) (PySem.W.BT.node (hd.o_86 P) (PySem.W.BT.node (hd.o_121 P) (PySem.W.BT.node (hd.o_197 P) PySem.W.BT.nil PySem.W.BT.nil) (PySem.W.BT.node (hd.o_267 P) PySem.W.BT.nil PySem.W.BT.nil)) (PySem.W.BT.node (hd.o_159 P) (PySem.W.BT.node (hd.o_235 P) PySem.W.BT.nil PySem.W.BT.nil) PySem.W.BT.nil)) (PySem.W.BT.node (hd.o_105 P) (PySem.W.BT.node (hd.o_140 P) (PySem.W.BT.node (hd.o_213 P) PySem.W.BT.nil PySem.W.BT.nil) PySem.W.BT.nil) (PySem.W.BT.node (hd.o_178 P) (PySem.W.BT.node (hd.o_251 P) PySem.W.BT.nil PySem.W.BT.nil) PySem.W.BT.nil))))))))
noncomputable abbrev hd.sts_279 : List PySem.Stmt := ((PySem.W.behindTheImports pE).drop 16).take 2
noncomputable abbrev hd.tree_292 : PySem.Params → PySem.W.BT := (fun (P : PySem.Params) => (PySem.W.BT.node (PySem.W.boot_o_0 P) (PySem.W.BT.node (PySem.W.boot_o_1 P) (PySem.W.BT.node (hd.o_279 P) (PySem.W.BT.node (PySem.W.boot_o_7 P) (PySem.W.BT.node (hd.o_52 P) (PySem.W.BT.node (hd.o_68 P) (PySem.W.BT.node (hd.o_106 P) (PySem.W.BT.node (hd.o_179 P) PySem.W.BT.nil PySem.W.BT.nil) (PySem.W.BT.node (hd.o_252 P) PySem.W.BT.nil PySem.W.BT.nil)) (PySem.W.BT.node (hd.o_141 P) (PySem.W.BT.node (hd.o_217 P) PySem.W.BT.nil PySem.W.BT.nil) (PySem.W.BT.node (hd.o_286 P) PySem.W.BT.nil PySem.W.BT.nil))) (PySem.W.BT.node (hd.o_87 P) (PySem.W.BT.node (hd.o_122 P) (PySem.W.BT.node (hd.o_198 P) PySem.W.BT.nil PySem.W.BT.nil) (PySem.W.BT.node (hd.o_268 P) PySem.W.BT.nil PySem.W.BT.nil)) (PySem.W.BT.node (hd.o_160 P) (PySem.W.BT.node (hd.o_236 P) PySem.W.BT.nil PySem.W.BT.nil) PySem.W.BT.nil))) (PySem.W.BT.node (hd.o_60 P) (PySem.W.BT.node (hd.o_172 P) (PySem.W.BT.node (hd.o_114 P) (PySem.W.BT.node (hd.o_187 P) PySem.W.BT.nil PySem.W.BT.nil) (PySem.W.BT.node (hd.o_260 P) PySem.W.BT.nil PySem.W.BT.nil)) (PySem.W.BT.node (hd.o_152 P) (PySem.W.BT.node (hd.o_225 P) PySem.W.BT.nil PySem.W.BT.nil) PySem.W.BT.nil)) (PySem.W.BT.node (hd.o_95 P) (PySem.W.BT.node (hd.o_133 P) (PySem.W.BT.node (hd.o_206 P) PySem.W.BT.nil PySem.W.BT.nil) (PySem.W.BT.node (hd.o_276 P) PySem.W.BT.nil PySem.W.BT.nil)) (PySem.W.BT.node (hd.o_168 P) (PySem.W.BT.node (hd.o_244 P) PySem.W.BT.nil PySem.W.BT.nil) PySem.W.BT.nil)))) (PySem.W.BT.node (hd.o_43 P) (PySem.W.BT.node (hd.o_56 P) (PySem.W.BT.node (hd.o_72 P) (PySem.W.BT.node (hd.o_110 P) (PySem.W.BT.node (hd.o_183 P) PySem.W.BT.nil PySem.W.BT.nil) (PySem.W.BT.node (hd.o_256 P) PySem.W.BT.nil PySem.W.BT.nil)) (PySem.W.BT.node (hd.o_145 P) (PySem.W.BT.node (hd.o_221 P) PySem.W.BT.nil PySem.W.BT.nil) (PySem.W.BT.node (hd.o_290 P) PySem.W.BT.nil PySem.W.BT.nil))) (PySem.W.BT.node (hd.o_91 P) (PySem.W.BT.node (hd.o_129 P) (PySem.W.BT.node (hd.o_202 P) PySem.W.BT.nil PySem.W.BT.nil) (PySem.W.BT.node (hd.o_272 P) PySem.W.BT.nil PySem.W.BT.nil)) (PySem.W.BT.node (hd.o_164 P) (PySem.W.BT.node (hd.o_240 P) PySem.W.BT.nil PySem.W.BT.nil) PySem.W.BT.nil))) (PySem.W.BT.node (hd.o_64 P) (PySem.W.BT.node (hd.o_83 P) (PySem.W.BT.node (hd.o_118 P) (PySem.W.BT.node (hd.o_191 P) PySem.W.BT.nil PySem.W.BT.nil) (PySem.W.BT.node (hd.o_264 P) PySem.W.BT.nil PySem.W.BT.nil)) (PySem.W.BT.node (hd.o_156 P) (PySem.W.BT.node (hd.o_232 P) PySem.W.BT.nil PySem.W.BT.nil) PySem.W.BT.nil)) (PySem.W.BT.node (hd.o_99 P) (PySem.W.BT.node (hd.o_137 P) (PySem.W.BT.node (hd.o_210 P) PySem.W.BT.nil PySem.W.BT.nil) (PySem.W.BT.node (hd.o_282 P) PySem.W.BT.nil PySem.W.BT.nil)) (PySem.W.BT.node (hd.o_175 P) (PySem.W.BT.node (hd.o_248 P) PySem.W.BT.nil PySem.W.BT.nil) PySem.W.BT.nil))))) (PySem.W.BT.node (PySem.W.boot_o_5 P) (PySem.W.BT.node (PySem.W.boot_o_9 P) (PySem.W.BT.node (hd.o_54 P) (PySem.W.BT.node (hd.o_70 P) (PySem.W.BT.node (hd.o_108 P) (PySem.W.BT.node (hd.o_181 P) PySem.W.BT.nil PySem.W.BT.nil) (PySem.W.BT.node (hd.o_254 P) PySem.W.BT.nil PySem.W.BT.nil)) (PySem.W.BT.node (hd.o_143 P) (PySem.W.BT.node (hd.o_219 P) PySem.W.BT.nil PySem.W.BT.nil) (PySem.W.BT.node (hd.o_288 P) PySem.W.BT.nil PySem.W.BT.nil))) (PySem.W.BT.node (hd.o_89 P) (PySem.W.BT.node (hd.o_124 P) (PySem.W.BT.node (hd.o_200 P) PySem.W.BT.nil PySem.W.BT.nil) (PySem.W.BT.node (hd.o_270 P) PySem.W.BT.nil PySem.W.BT.nil)) (PySem.W.BT.node (hd.o_162 P) (PySem.W.BT.node (hd.o_238 P) PySem.W.BT.nil PySem.W.BT.nil) PySem.W.BT.nil))) (PySem.W.BT.node (hd.o_62 P) (PySem.W.BT.node (hd.o_78 P) (PySem.W.BT.node (hd.o_116 P) (PySem.W.BT.node (hd.o_231 P) PySem.W.BT.nil PySem.W.BT.nil) (PySem.W.BT.node (hd.o_262 P) PySem.W.BT.nil PySem.W.BT.nil)) (PySem.W.BT.node (hd.o_154 P) (PySem.W.BT.node (hd.o_227 P) PySem.W.BT.nil PySem.W.BT.nil) PySem.W.BT.nil)) (PySem.W.BT.node (hd.o_97 P) (PySem.W.BT.node (hd.o_135 P) (PySem.W.BT.node (hd.o_208 P) PySem.W.BT.nil PySem.W.BT.nil) (PySem.W.BT.node (hd.o_278 P) PySem.W.BT.nil PySem.W.BT.nil)) (PySem.W.BT.node (hd.o_173 P) (PySem.W.BT.node (hd.o_246 P) PySem.W.BT.nil PySem.W.BT.nil) PySem.W.BT.nil)))) (PySem.W.BT.node (hd.o_45 P) (PySem.W.BT.node (hd.o_58 P) (PySem.W.BT.node (hd.o_74 P) (PySem.W.BT.node (hd.o_112 P) (PySem.W.BT.node (hd.o_185 P) PySem.W.BT.nil PySem.W.BT.nil) (PySem.W.BT.node (hd.o_258 P) PySem.W.BT.nil PySem.W.BT.nil)) (PySem.W.BT.node (hd.o_147 P) (PySem.W.BT.node (hd.o_223 P) PySem.W.BT.nil PySem.W.BT.nil) (PySem.W.BT.node (hd.o_292 P) PySem.W.BT.nil PySem.W.BT.nil))) (PySem.W.BT.node (hd.o_93 P) (PySem.W.BT.node (hd.o_131 P) (PySem.W.BT.node (hd.o_204 P) PySem.W.BT.nil PySem.W.BT.nil) (PySem.W.BT.node (hd.o_274 P) PySem.W.BT.nil PySem.W.BT.nil)) (PySem.W.BT.node (hd.o_166 P) (PySem.W.BT.node (hd.o_242 P) PySem.W.BT.nil PySem.W.BT.nil) PySem.W.BT.nil))) (PySem.W.BT.node (hd.o_66 P) (PySem.W.BT.node (hd.o_85 P) (PySem.W.BT.node (hd.o_120 P) (PySem.W.BT.node (hd.o_196 P) PySem.W.BT.nil PySem.W.BT.nil) (PySem.W.BT.node (hd.o_266 P) PySem.W.BT.nil PySem.W.BT.nil)) (PySem.W.BT.node (hd.o_158 P) (PySem.W.BT.node (hd.o_234 P) PySem.W.BT.nil PySem.W.BT.nil) PySem.W.BT.nil)) (PySem.W.BT.node (hd.o_101 P) (PySem.W.BT.node (hd.o_139 P) (PySem.W.BT.node (hd.o_212 P) PySem.W.BT.nil PySem.W.BT.nil) (PySem.W.BT.node (hd.o_284 P) PySem.W.BT.nil PySem.W.BT.nil)) (PySem.W.BT.node (hd.o_177 P) (PySem.W.BT.node (hd.o_250 P) PySem.W.BT.nil PySem.W.BT.nil) PySem.W.BT.nil)))))) (PySem.W.BT.node (hd.o_49 P) (PySem.W.BT.node (PySem.W.boot_o_4 P) (PySem.W.BT.node (PySem.W.boot_o_8 P) (PySem.W.BT.node (hd.o_53 P) (PySem.W.BT.node (hd.o_69 P) (PySem.W.BT.node (hd.o_107 P) (PySem.W.BT.node (hd.o_180 P) PySem.W.BT.nil PySem.W.BT.nil) (PySem.W.BT.node (hd.o_253 P) PySem.W.BT.nil PySem.W.BT.nil)) (PySem.W.BT.node (hd.o_142 P) (PySem.W.BT.node (hd.o_218 P) PySem.W.BT.nil PySem.W.BT.nil) (PySem.W.BT.node (hd.o_287 P) PySem.W.BT.nil PySem.W.BT.nil))) (PySem.W.BT.node (hd.o_88 P) (PySem.W.BT.node (hd.o_123 P) (PySem.W.BT.node (hd.o_199 P) PySem.W.BT.nil PySem.W.BT.nil) (PySem.W.BT.node (hd.o_269 P) PySem.W.BT.nil PySem.W.BT.nil)) (PySem.W.BT.node (hd.o_161 P) (PySem.W.BT.node (hd.o_237 P) PySem.W.BT.nil PySem.W.BT.nil) PySem.W.BT.nil))) (PySem.W.BT.node (hd.o_61 P) (PySem.W.BT.node (hd.o_77 P) (PySem.W.BT.node (hd.o_115 P) (PySem.W.BT.node (hd.o_188 P) PySem.W.BT.nil PySem.W.BT.nil) (PySem.W.BT.node (hd.o_261 P) PySem.W.BT.nil PySem.W.BT.nil)) (PySem.W.BT.node (hd.o_153 P) (PySem.W.BT.node (hd.o_226 P) PySem.W.BT.nil PySem.W.BT.nil) PySem.W.BT.nil)) (PySem.W.BT.node (hd.o_96 P) (PySem.W.BT.node (hd.o_134 P) (PySem.W.BT.node (hd.o_207 P) PySem.W.BT.nil PySem.W.BT.nil) (PySem.W.BT.node (hd.o_277 P) PySem.W.BT.nil PySem.W.BT.nil)) (PySem.W.BT.node (hd.o_169 P) (PySem.W.BT.node (hd.o_245 P) PySem.W.BT.nil PySem.W.BT.nil) PySem.W.BT.nil)))) (PySem.W.BT.node (hd.o_280 P) (PySem.W.BT.node (hd.o_57 P) (PySem.W.BT.node (hd.o_73 P) (PySem.W.BT.node (hd.o_111 P) (PySem.W.BT.node (hd.o_184 P) PySem.W.BT.nil PySem.W.BT.nil) (PySem.W.BT.node (hd.o_257 P) PySem.W.BT.nil PySem.W.BT.nil)) (PySem.W.BT.node (hd.o_146 P) (PySem.W.BT.node (hd.o_222 P) PySem.W.BT.nil PySem.W.BT.nil) (PySem.W.BT.node (hd.o_291 P) PySem.W.BT.nil PySem.W.BT.nil))) (PySem.W.BT.node (hd.o_92 P) (PySem.W.BT.node (hd.o_130 P) (PySem.W.BT.node (hd.o_203 P) PySem.W.BT.nil PySem.W.BT.nil) (PySem.W.BT.node (hd.o_273 P) PySem.W.BT.nil PySem.W.BT.nil)) (PySem.W.BT.node (hd.o_165 P) (PySem.W.BT.node (hd.o_241 P) PySem.W.BT.nil PySem.W.BT.nil) PySem.W.BT.nil))) (PySem.W.BT.node (hd.o_65 P) (PySem.W.BT.node (hd.o_84 P) (PySem.W.BT.node (hd.o_119 P) (PySem.W.BT.node (hd.o_195 P) PySem.W.BT.nil PySem.W.BT.nil) (PySem.W.BT.node (hd.o_265 P) PySem.W.BT.nil PySem.W.BT.nil)) (PySem.W.BT.node (hd.o_157 P) (PySem.W.BT.node (hd.o_233 P) PySem.W.BT.nil PySem.W.BT.nil) PySem.W.BT.nil)) (PySem.W.BT.node (hd.o_100 P) (PySem.W.BT.node (hd.o_138 P) (PySem.W.BT.node (hd.o_211 P) PySem.W.BT.nil PySem.W.BT.nil) (PySem.W.BT.node (hd.o_283 P) PySem.W.BT.nil PySem.W.BT.nil)) (PySem.W.BT.node (hd.o_176 P) (PySem.W.BT.node (hd.o_249 P) PySem.W.BT.nil PySem.W.BT.nil) PySem.W.BT.nil))))) (PySem.W.BT.node (PySem.W.boot_o_6 P) (PySem.W.BT.node (PySem.W.boot_o_10 P) (PySem.W.BT.node (hd.o_55 P) (PySem.W.BT.node (hd.o_71 P) (PySem.W.BT.node (hd.o_109 P) (PySem.W.BT.node (hd.o_182 P) PySem.W.BT.nil PySem.W.BT.nil) (PySem.W.BT.node (hd.o_255 P) PySem.W.BT.nil PySem.W.BT.nil)) (PySem.W.BT.node (hd.o_144 P) (PySem.W.BT.node (hd.o_220 P) PySem.W.BT.nil PySem.W.BT.nil) (PySem.W.BT.node (hd.o_289 P) PySem.W.BT.nil PySem.W.BT.nil))) (PySem.W.BT.node (hd.o_90 P) (PySem.W.BT.node (hd.o_128 P) (PySem.W.BT.node (hd.o_201 P) PySem.W.BT.nil PySem.W.BT.nil) (PySem.W.BT.node (hd.o_271 P) PySem.W.BT.nil PySem.W.BT.nil)) (PySem.W.BT.node (hd.o_163 P) (PySem.W.BT.node (hd.o_239 P) PySem.W.BT.nil PySem.W.BT.nil) PySem.W.BT.nil))) (PySem.W.BT.node (hd.o_63 P) (PySem.W.BT.node (hd.o_79 P) (PySem.W.BT.node (hd.o_117 P) (PySem.W.BT.node (hd.o_190 P) PySem.W.BT.nil PySem.W.BT.nil) (PySem.W.BT.node (hd.o_263 P) PySem.W.BT.nil PySem.W.BT.nil)) (PySem.W.BT.node (hd.o_155 P) (PySem.W.BT.node (hd.o_228 P) PySem.W.BT.nil PySem.W.BT.nil) PySem.W.BT.nil)) (PySem.W.BT.node (hd.o_98 P) (PySem.W.BT.node (hd.o_136 P) (PySem.W.BT.node (hd.o_209 P) PySem.W.BT.nil PySem.W.BT.nil) (PySem.W.BT.node (hd.o_281 P) PySem.W.BT.nil PySem.W.BT.nil)) (PySem.W.BT.node (hd.o_174 P) (PySem.W.BT.node (hd.o_247 P) PySem.W.BT.nil PySem.W.BT.nil) PySem.W.BT.nil)))) (PySem.W.BT.node (hd.o_46 P) (PySem.W.BT.node (hd.o_59 P) (PySem.W.BT.node (hd.o_75 P) (PySem.W.BT.node (hd.o_113 P) (PySem.W.BT.node (hd.o_186 P) PySem.W.BT.nil PySem.W.BT.nil) (PySem.W.BT.node (hd.o_259 P) PySem.W.BT.nil PySem.W.BT.nil)) (PySem.W.BT.node (hd.o_151 P) (PySem.W.BT.node (hd.o_224 P) PySem.W.BT.nil PySem.W.BT.nil) PySem.W.BT.nil)) (PySem.W.BT.node (hd.o_94 P) (PySem.W.BT.node (hd.o_132 P) (PySem.W.BT.node (hd.o_205 P) PySem.W.BT.nil PySem.W.BT.nil) (PySem.W.BT.node (hd.o_275 P) PySem.W.BT.nil PySem.W.BT.nil)) (PySem.W.BT.node (hd.o_167 P) (PySem.W.BT.node (hd.o_243 P) PySem.W.BT.nil PySem.W.BT.nil) PySem.W.BT.nil))) (PySem.W.BT.node (hd.o_67 P) (PySem.W.BT.node (hd.o_86 P) (PySem.W.BT.node (hd.o_121 P) (PySem.W.BT.node (hd.o_197 P) PySem.W.BT.nil PySem.W.BT.nil) (PySem.W.BT.node (hd.o_267 P) PySem.W.BT.nil PySem.W.BT.nil)) (PySem.W.BT.node (hd.o_159 P) (PySem.W.BT.node (hd.o_235 P) PySem.W.BT.nil PySem.W.BT.nil) PySem.W.BT.nil)) (PySem.W.BT.node (hd.o_105 P) (PySem.W.BT.node (hd.o_140 P) (PySem.W.BT.node (hd.o_213 P) PySem.W.BT.nil PySem.W.BT.nil) (PySem.W.BT.node (hd.o_285 P) PySem.W.BT.nil PySem.W.BT.nil)) (PySem.W.BT.node (hd.o_178 P) (PySem.W.BT.node (hd.o_251 P) PySem.W.BT.nil PySem.W.BT.nil) PySem.W.BT.nil))))))))
noncomputable abbrev hd.heap_293 : (∀ (x : PySem.Params), PySem.Heap) := (fun (P : PySem.Params) => (PySem.Heap.mk (Array.mk ((PySem.W.boot_o_0 P) :: (PySem.W.boot_o_1 P) :: (hd.o_49 P) :: (hd.o_279 P) :: (PySem.W.boot_o_4 P) :: (PySem.W.boot_o_5 P) :: (PySem.W.boot_o_6 P) :: (PySem.W.boot_o_7 P) :: (PySem.W.boot_o_8 P) :: (PySem.W.boot_o_9 P) :: (PySem.W.boot_o_10 P) :: (hd.o_43 P) :: (hd.o_280 P) :: (hd.o_45 P) :: (hd.o_46 P) :: (hd.o_52 P) :: (hd.o_53 P) :: (hd.o_54 P) :: (hd.o_55 P) :: (hd.o_56 P) :: (hd.o_57 P) :: (hd.o_58 P) :: (hd.o_59 P) :: (hd.o_60 P) :: (hd.o_61 P) :: (hd.o_62 P) :: (hd.o_63 P) :: (hd.o_64 P) :: (hd.o_65 P) :: (hd.o_66 P) :: (hd.o_67 P) :: (hd.o_68 P) :: (hd.o_69 P) :: (hd.o_70 P) :: (hd.o_71 P) :: (hd.o_72 P) :: (hd.o_73 P) :: (hd.o_74 P) :: (hd.o_75 P) :: (hd.o_172 P) :: (hd.o_77 P) :: (hd.o_78 P) :: (hd.o_79 P) :: (hd.o_83 P) :: (hd.o_84 P) :: (hd.o_85 P) :: (hd.o_86 P) :: (hd.o_87 P) :: (hd.o_88 P) :: (hd.o_89 P) :: (hd.o_90 P) :: (hd.o_91 P) :: (hd.o_92 P) :: (hd.o_93 P) :: (hd.o_94 P) :: (hd.o_95 P) :: (hd.o_96 P) :: (hd.o_97 P) :: (hd.o_98 P) :: (hd.o_99 P) :: (hd.o_100 P) :: (hd.o_101 P) :: (hd.o_105 P) :: (hd.o_106 P) :: (hd.o_107 P) :: (hd.o_108 P) :: (hd.o_109 P) :: (hd.o_110 P) :: (hd.o_111 P) :: (hd.o_112 P) :: (hd.o_113 P) :: (hd.o_114 P) :: (hd.o_115 P) :: (hd.o_116 P) :: (hd.o_117 P) :: (hd.o_118 P) :: (hd.o_119 P) :: (hd.o_120 P) :: (hd.o_121 P) :: (hd.o_122 P) :: (hd.o_123 P) :: (hd.o_124 P) :: (hd.o_128 P) :: (hd.o_129 P) :: (hd.o_130 P) :: (hd.o_131 P) :: (hd.o_132 P) :: (hd.o_133 P) :: (hd.o_134 P) :: (hd.o_135 P) :: (hd.o_136 P) :: (hd.o_137 P) :: (hd.o_138 P) :: (hd.o_139 P) :: (hd.o_140 P) :: (hd.o_141 P) :: (hd.o_142 P) :: (hd.o_143 P) :: (hd.o_144 P) :: (hd.o_145 P) :: (hd.o_146 P) :: (hd.o_147 P) :: (hd.o_151 P) :: (hd.o_152 P) :: (hd.o_153 P) :: (hd.o_154 P) :: (hd.o_155 P) :: (hd.o_156 P) :: (hd.o_157 P) :: (hd.o_158 P) :: (hd.o_159 P) :: (hd.o_160 P) :: (hd.o_161 P) :: (hd.o_162 P) :: (hd.o_163 P) :: (hd.o_164 P) :: (hd.o_165 P) :: (hd.o_166 P) :: (hd.o_167 P) :: (hd.o_168 P) :: (hd.o_169 P) :: (hd.o_173 P) :: (hd.o_174 P) :: (hd.o_175 P) :: (hd.o_176 P) :: (hd.o_177 P) :: (hd.o_178 P) :: (hd.o_179 P) :: (hd.o_180 P) :: (hd.o_181 P) :: (hd.o_182 P) :: (hd.o_183 P) :: (hd.o_184 P) :: (hd.o_185 P) :: (hd.o_186 P) :: (hd.o_187 P) :: (hd.o_188 P) :: (hd.o_231 P) :: (hd.o_190 P) :: (hd.o_191 P) :: (hd.o_195 P) :: (hd.o_196 P) :: (hd.o_197 P) :: (hd.o_198 P) :: (hd.o_199 P) :: (hd.o_200 P) :: (hd.o_201 P) :: (hd.o_202 P) :: (hd.o_203 P) :: (hd.o_204 P) :: (hd.o_205 P) :: (hd.o_206 P) :: (hd.o_207 P) :: (hd.o_208 P) :: (hd.o_209 P) :: (hd.o_210 P) :: (hd.o_211 P) :: (hd.o_212 P) :: (hd.o_213 P) :: (hd.o_217 P) :: (hd.o_218 P) :: (hd.o_219 P) :: (hd.o_220 P) :: (hd.o_221 P) :: (hd.o_222 P) :: (hd.o_223 P) :: (hd.o_224 P) :: (hd.o_225 P) :: (hd.o_226 P) :: (hd.o_227 P) :: (hd.o_228 P) :: (hd.o_232 P) :: (hd.o_233 P) :: (hd.o_234 P) :: (hd.o_235 P) :: (hd.o_236 P) :: (hd.o_237 P) :: (hd.o_238 P) :: (hd.o_239 P) :: (hd.o_240 P) :: (hd.o_241 P) :: (hd.o_242 P) :: (hd.o_243 P) :: (hd.o_244 P) :: (hd.o_245 P) :: (hd.o_246 P) :: (hd.o_247 P) :: (hd.o_248 P) :: (hd.o_249 P) :: (hd.o_250 P) :: (hd.o_251 P) :: (hd.o_252 P) :: (hd.o_253 P) :: (hd.o_254 P) :: (hd.o_255 P) :: (hd.o_256 P) :: (hd.o_257 P) :: (hd.o_258 P) :: (hd.o_259 P) :: (hd.o_260 P) :: (hd.o_261 P) :: (hd.o_262 P) :: (hd.o_263 P) :: (hd.o_264 P) :: (hd.o_265 P) :: (hd.o_266 P) :: (hd.o_267 P) :: (hd.o_268 P) :: (hd.o_269 P) :: (hd.o_270 P) :: (hd.o_271 P) :: (hd.o_272 P) :: (hd.o_273 P) :: (hd.o_274 P) :: (hd.o_275 P) :: (hd.o_276 P) :: (hd.o_277 P) :: (hd.o_278 P) :: (hd.o_281 P) :: (hd.o_282 P) :: (hd.o_283 P) :: (hd.o_284 P) :: (hd.o_285 P) :: (hd.o_286 P) :: (hd.o_287 P) :: (hd.o_288 P) :: (hd.o_289 P) :: (hd.o_290 P) :: (hd.o_291 P) :: (hd.o_292 P) :: [])) (PySem.Life.mk ([] : List Nat) ([] : List Nat) ([] : List Nat) 0 ([] : List (Prod Nat Nat)) ([] : List Nat) Bool.false #[] ([] : List Nat) 0 Bool.false Bool.false Bool.false (0 : Int) [(2000 : Int), (10 : Int), (10 : Int)] Bool.false 0 Bool.true ([] : List Nat) ([] : List Nat) 0 Bool.false)))
theorem hd.q_47 (w : PySem.World) : (((fun (os : PySem.OsState) => (PySem.W.topGo PySem.treeTable pE w 11 (Option.some (PySem.Value.ref 6)) 12 (PySem.Shared.mk (PySem.W.boot_heap (PySem.World.params w)) (Array.mk ([] : List PySem.GenState)) PySem.W.boot_drawn PySem.W.boot_toks os) (PySem.W.topStub pE)))) = ((fun (os : PySem.OsState) => (Option.some ((PySem.Shared.mk (hd.heap_46 (PySem.World.params w)) (Array.mk ([] : List PySem.GenState)) (PySem.Drawn.mk 0 0 0 0) 187 os), (PySem.Thread.mk (PySem.denote PySem.treeTable (PySem.Code.body (PySem.W.behindTheImports pE) hd.env_41)) (PySem.Code.body (PySem.W.behindTheImports pE) hd.env_41) (PySem.Pos.mk 0 0 0 0) [(PySem.W.topFrame (PySem.Pos.mk 0 0 0 0))])))))) := by rewrite [PySem.W.Fast.te15667345088766844465, PySem.W.Fast.te14364793385576792824, PySem.W.Fast.te11892475500146522536]; kernel_rfl
theorem hd.q_49 (w : PySem.World) : (((fun (os : PySem.OsState) => (PySem.W.segRun PySem.treeTable pE w 11 (Option.some (PySem.Value.ref 6)) 1 1 (PySem.Shared.mk (hd.heap_46 (PySem.World.params w)) (Array.mk ([] : List PySem.GenState)) (PySem.Drawn.mk 0 0 0 0) 187 os) (PySem.W.blockOf (PySem.W.behindTheImports pE) hd.env_41 (PySem.Code.body (PySem.W.behindTheImports pE) hd.env_41) (PySem.Pos.mk 0 0 0 0) [(PySem.W.topFrame (PySem.Pos.mk 0 0 0 0))])))) = ((fun (os : PySem.OsState) => (Option.some (PySem.Flow.next, ((PySem.W.SharedT.abs (PySem.W.SharedT.mk (hd.tree_47 (PySem.World.params w)) 15 (PySem.Life.mk ([] : List Nat) ([] : List Nat) ([] : List Nat) 0 ([] : List (Prod Nat Nat)) ([] : List Nat) Bool.false #[] ([] : List Nat) 0 Bool.false Bool.false Bool.false (0 : Int) [(2000 : Int), (10 : Int), (10 : Int)] Bool.false 0 Bool.true ([] : List Nat) ([] : List Nat) 0 Bool.false) (Array.mk ([] : List PySem.GenState)) (PySem.Drawn.mk 0 0 0 0) 187 os)), ((PySem.Code.body (PySem.W.behindTheImports pE) hd.env_41), (PySem.Pos.mk 0 0 0 0)))))))) := by rewrite [PySem.W.Fast.te14374325043358763698, PySem.W.Fast.te14364793385576792824]; kernel_rfl
theorem hd.q_80 (w : PySem.World) : (((fun (os : PySem.OsState) => (PySem.W.segRunT PySem.treeTable pE w 11 (Option.some (PySem.Value.ref 6)) 1 293 (PySem.W.SharedT.mk (hd.tree_47 (PySem.World.params w)) 15 (PySem.Life.mk ([] : List Nat) ([] : List Nat) ([] : List Nat) 0 ([] : List (Prod Nat Nat)) ([] : List Nat) Bool.false #[] ([] : List Nat) 0 Bool.false Bool.false Bool.false (0 : Int) [(2000 : Int), (10 : Int), (10 : Int)] Bool.false 0 Bool.true ([] : List Nat) ([] : List Nat) 0 Bool.false) (Array.mk ([] : List PySem.GenState)) (PySem.Drawn.mk 0 0 0 0) 187 os) (PySem.W.piecesOf hd.sts_49 hd.env_41 (PySem.Code.body (PySem.W.behindTheImports pE) hd.env_41) (PySem.Pos.mk 0 0 0 0) [(PySem.W.topFrame (PySem.Pos.mk 0 0 0 0))])))) = ((fun (os : PySem.OsState) => (Option.some (PySem.Flow.next, ((PySem.W.SharedT.mk (hd.tree_79 (PySem.World.params w)) 43 (PySem.Life.mk ([] : List Nat) ([] : List Nat) ([] : List Nat) 0 ([] : List (Prod Nat Nat)) ([] : List Nat) Bool.false #[] ([] : List Nat) 0 Bool.false Bool.false Bool.false (0 : Int) [(2000 : Int), (10 : Int), (10 : Int)] Bool.false 0 Bool.true ([] : List Nat) ([] : List Nat) 0 Bool.false) (Array.mk ([] : List PySem.GenState)) (PySem.Drawn.mk 0 0 0 0) 229 os), ((PySem.Code.body (PySem.W.behindTheImports pE) hd.env_41), (PySem.Pos.mk 3 0 11 22)))))))) := by rewrite [PySem.W.Fast.te10110043849684766642, PySem.W.Fast.te14364793385576792824]; kernel_rfl
theorem hd.q_102 (w : PySem.World) : (((fun (os : PySem.OsState) => (PySem.W.segRunT PySem.treeTable pE w 11 (Option.some (PySem.Value.ref 6)) 1 247 (PySem.W.SharedT.mk (hd.tree_79 (PySem.World.params w)) 43 (PySem.Life.mk ([] : List Nat) ([] : List Nat) ([] : List Nat) 0 ([] : List (Prod Nat Nat)) ([] : List Nat) Bool.false #[] ([] : List Nat) 0 Bool.false Bool.false Bool.false (0 : Int) [(2000 : Int), (10 : Int), (10 : Int)] Bool.false 0 Bool.true ([] : List Nat) ([] : List Nat) 0 Bool.false) (Array.mk ([] : List PySem.GenState)) (PySem.Drawn.mk 0 0 0 0) 229 os) (PySem.W.piecesOf hd.sts_80 hd.env_41 (PySem.Code.body (PySem.W.behindTheImports pE) hd.env_41) (PySem.Pos.mk 3 0 11 22) [(PySem.W.topFrame (PySem.Pos.mk 0 0 0 0))])))) = ((fun (os : PySem.OsState) => (Option.some (PySem.Flow.next, ((PySem.W.SharedT.mk (hd.tree_101 (PySem.World.params w)) 62 (PySem.Life.mk ([] : List Nat) ([] : List Nat) ([] : List Nat) 0 ([] : List (Prod Nat Nat)) ([] : List Nat) Bool.false #[] ([] : List Nat) 0 Bool.false Bool.false Bool.false (0 : Int) [(2000 : Int), (10 : Int), (10 : Int)] Bool.false 0 Bool.true ([] : List Nat) ([] : List Nat) 0 Bool.false) (Array.mk ([] : List PySem.GenState)) (PySem.Drawn.mk 0 0 0 0) 255 os), ((PySem.Code.body (PySem.W.behindTheImports pE) hd.env_41), (PySem.Pos.mk 12 0 17 30)))))))) := by rewrite [PySem.W.Fast.te10110043849684766642, PySem.W.Fast.te14364793385576792824]; kernel_rfl
theorem hd.q_125 (w : PySem.World) : (((fun (os : PySem.OsState) => (PySem.W.segRunT PySem.treeTable pE w 11 (Option.some (PySem.Value.ref 6)) 1 254 (PySem.W.SharedT.mk (hd.tree_101 (PySem.World.params w)) 62 (PySem.Life.mk ([] : List Nat) ([] : List Nat) ([] : List Nat) 0 ([] : List (Prod Nat Nat)) ([] : List Nat) Bool.false #[] ([] : List Nat) 0 Bool.false Bool.false Bool.false (0 : Int) [(2000 : Int), (10 : Int), (10 : Int)] Bool.false 0 Bool.true ([] : List Nat) ([] : List Nat) 0 Bool.false) (Array.mk ([] : List PySem.GenState)) (PySem.Drawn.mk 0 0 0 0) 255 os) (PySem.W.piecesOf hd.sts_102 hd.env_41 (PySem.Code.body (PySem.W.behindTheImports pE) hd.env_41) (PySem.Pos.mk 12 0 17 30) [(PySem.W.topFrame (PySem.Pos.mk 0 0 0 0))])))) = ((fun (os : PySem.OsState) => (Option.some (PySem.Flow.next, ((PySem.W.SharedT.mk (hd.tree_124 (PySem.World.params w)) 82 (PySem.Life.mk ([] : List Nat) ([] : List Nat) ([] : List Nat) 0 ([] : List (Prod Nat Nat)) ([] : List Nat) Bool.false #[] ([] : List Nat) 0 Bool.false Bool.false Bool.false (0 : Int) [(2000 : Int), (10 : Int), (10 : Int)] Bool.false 0 Bool.true ([] : List Nat) ([] : List Nat) 0 Bool.false) (Array.mk ([] : List PySem.GenState)) (PySem.Drawn.mk 0 0 0 0) 287 os), ((PySem.Code.body (PySem.W.behindTheImports pE) hd.env_41), (PySem.Pos.mk 18 0 35 45)))))))) := by rewrite [PySem.W.Fast.te10110043849684766642, PySem.W.Fast.te14364793385576792824]; kernel_rfl
theorem hd.q_148 (w : PySem.World) : (((fun (os : PySem.OsState) => (PySem.W.segRunT PySem.treeTable pE w 11 (Option.some (PySem.Value.ref 6)) 1 256 (PySem.W.SharedT.mk (hd.tree_124 (PySem.World.params w)) 82 (PySem.Life.mk ([] : List Nat) ([] : List Nat) ([] : List Nat) 0 ([] : List (Prod Nat Nat)) ([] : List Nat) Bool.false #[] ([] : List Nat) 0 Bool.false Bool.false Bool.false (0 : Int) [(2000 : Int), (10 : Int), (10 : Int)] Bool.false 0 Bool.true ([] : List Nat) ([] : List Nat) 0 Bool.false) (Array.mk ([] : List PySem.GenState)) (PySem.Drawn.mk 0 0 0 0) 287 os) (PySem.W.piecesOf hd.sts_125 hd.env_41 (PySem.Code.body (PySem.W.behindTheImports pE) hd.env_41) (PySem.Pos.mk 18 0 35 45) [(PySem.W.topFrame (PySem.Pos.mk 0 0 0 0))])))) = ((fun (os : PySem.OsState) => (Option.some (PySem.Flow.next, ((PySem.W.SharedT.mk (hd.tree_147 (PySem.World.params w)) 102 (PySem.Life.mk ([] : List Nat) ([] : List Nat) ([] : List Nat) 0 ([] : List (Prod Nat Nat)) ([] : List Nat) Bool.false #[] ([] : List Nat) 0 Bool.false Bool.false Bool.false (0 : Int) [(2000 : Int), (10 : Int), (10 : Int)] Bool.false 0 Bool.true ([] : List Nat) ([] : List Nat) 0 Bool.false) (Array.mk ([] : List PySem.GenState)) (PySem.Drawn.mk 0 0 0 0) 321 os), ((PySem.Code.body (PySem.W.behindTheImports pE) hd.env_41), (PySem.Pos.mk 36 0 54 53)))))))) := by rewrite [PySem.W.Fast.te10110043849684766642, PySem.W.Fast.te14364793385576792824]; kernel_rfl
theorem hd.q_170 (w : PySem.World) : (((fun (os : PySem.OsState) => (PySem.W.segRunT PySem.treeTable pE w 11 (Option.some (PySem.Value.ref 6)) 1 249 (PySem.W.SharedT.mk (hd.tree_147 (PySem.World.params w)) 102 (PySem.Life.mk ([] : List Nat) ([] : List Nat) ([] : List Nat) 0 ([] : List (Prod Nat Nat)) ([] : List Nat) Bool.false #[] ([] : List Nat) 0 Bool.false Bool.false Bool.false (0 : Int) [(2000 : Int), (10 : Int), (10 : Int)] Bool.false 0 Bool.true ([] : List Nat) ([] : List Nat) 0 Bool.false) (Array.mk ([] : List PySem.GenState)) (PySem.Drawn.mk 0 0 0 0) 321 os) (PySem.W.piecesOf hd.sts_148 hd.env_41 (PySem.Code.body (PySem.W.behindTheImports pE) hd.env_41) (PySem.Pos.mk 36 0 54 53) [(PySem.W.topFrame (PySem.Pos.mk 0 0 0 0))])))) = ((fun (os : PySem.OsState) => (Option.some (PySem.Flow.next, ((PySem.W.SharedT.mk (hd.tree_169 (PySem.World.params w)) 121 (PySem.Life.mk ([] : List Nat) ([] : List Nat) ([] : List Nat) 0 ([] : List (Prod Nat Nat)) ([] : List Nat) Bool.false #[] ([] : List Nat) 0 Bool.false Bool.false Bool.false (0 : Int) [(2000 : Int), (10 : Int), (10 : Int)] Bool.false 0 Bool.true ([] : List Nat) ([] : List Nat) 0 Bool.false) (Array.mk ([] : List PySem.GenState)) (PySem.Drawn.mk 0 0 0 0) 349 os), ((PySem.Code.body (PySem.W.behindTheImports pE) hd.env_41), (PySem.Pos.mk 55 0 61 37)))))))) := by rewrite [PySem.W.Fast.te10110043849684766642, PySem.W.Fast.te14364793385576792824]; kernel_rfl
theorem hd.q_192 (w : PySem.World) : (((fun (os : PySem.OsState) => (PySem.W.segRunT PySem.treeTable pE w 11 (Option.some (PySem.Value.ref 6)) 1 250 (PySem.W.SharedT.mk (hd.tree_169 (PySem.World.params w)) 121 (PySem.Life.mk ([] : List Nat) ([] : List Nat) ([] : List Nat) 0 ([] : List (Prod Nat Nat)) ([] : List Nat) Bool.false #[] ([] : List Nat) 0 Bool.false Bool.false Bool.false (0 : Int) [(2000 : Int), (10 : Int), (10 : Int)] Bool.false 0 Bool.true ([] : List Nat) ([] : List Nat) 0 Bool.false) (Array.mk ([] : List PySem.GenState)) (PySem.Drawn.mk 0 0 0 0) 349 os) (PySem.W.piecesOf hd.sts_170 hd.env_41 (PySem.Code.body (PySem.W.behindTheImports pE) hd.env_41) (PySem.Pos.mk 55 0 61 37) [(PySem.W.topFrame (PySem.Pos.mk 0 0 0 0))])))) = ((fun (os : PySem.OsState) => (Option.some (PySem.Flow.next, ((PySem.W.SharedT.mk (hd.tree_191 (PySem.World.params w)) 140 (PySem.Life.mk ([] : List Nat) ([] : List Nat) ([] : List Nat) 0 ([] : List (Prod Nat Nat)) ([] : List Nat) Bool.false #[] ([] : List Nat) 0 Bool.false Bool.false Bool.false (0 : Int) [(2000 : Int), (10 : Int), (10 : Int)] Bool.false 0 Bool.true ([] : List Nat) ([] : List Nat) 0 Bool.false) (Array.mk ([] : List PySem.GenState)) (PySem.Drawn.mk 0 0 0 0) 378 os), ((PySem.Code.body (PySem.W.behindTheImports pE) hd.env_41), (PySem.Pos.mk 62 0 68 42)))))))) := by rewrite [PySem.W.Fast.te10110043849684766642, PySem.W.Fast.te14364793385576792824]; kernel_rfl
theorem hd.q_214 (w : PySem.World) : (((fun (os : PySem.OsState) => (PySem.W.segRunT PySem.treeTable pE w 11 (Option.some (PySem.Value.ref 6)) 1 265 (PySem.W.SharedT.mk (hd.tree_191 (PySem.World.params w)) 140 (PySem.Life.mk ([] : List Nat) ([] : List Nat) ([] : List Nat) 0 ([] : List (Prod Nat Nat)) ([] : List Nat) Bool.false #[] ([] : List Nat) 0 Bool.false Bool.false Bool.false (0 : Int) [(2000 : Int), (10 : Int), (10 : Int)] Bool.false 0 Bool.true ([] : List Nat) ([] : List Nat) 0 Bool.false) (Array.mk ([] : List PySem.GenState)) (PySem.Drawn.mk 0 0 0 0) 378 os) (PySem.W.piecesOf hd.sts_192 hd.env_41 (PySem.Code.body (PySem.W.behindTheImports pE) hd.env_41) (PySem.Pos.mk 62 0 68 42) [(PySem.W.topFrame (PySem.Pos.mk 0 0 0 0))])))) = ((fun (os : PySem.OsState) => (Option.some (PySem.Flow.next, ((PySem.W.SharedT.mk (hd.tree_213 (PySem.World.params w)) 159 (PySem.Life.mk ([] : List Nat) ([] : List Nat) ([] : List Nat) 0 ([] : List (Prod Nat Nat)) ([] : List Nat) Bool.false #[] ([] : List Nat) 0 Bool.false Bool.false Bool.false (0 : Int) [(2000 : Int), (10 : Int), (10 : Int)] Bool.false 0 Bool.true ([] : List Nat) ([] : List Nat) 0 Bool.false) (Array.mk ([] : List PySem.GenState)) (PySem.Drawn.mk 0 0 0 0) 408 os), ((PySem.Code.body (PySem.W.behindTheImports pE) hd.env_41), (PySem.Pos.mk 69 0 75 56)))))))) := by rewrite [PySem.W.Fast.te10110043849684766642, PySem.W.Fast.te14364793385576792824]; kernel_rfl
theorem hd.q_229 (w : PySem.World) : (((fun (os : PySem.OsState) => (PySem.W.segRunT PySem.treeTable pE w 11 (Option.some (PySem.Value.ref 6)) 1 228 (PySem.W.SharedT.mk (hd.tree_213 (PySem.World.params w)) 159 (PySem.Life.mk ([] : List Nat) ([] : List Nat) ([] : List Nat) 0 ([] : List (Prod Nat Nat)) ([] : List Nat) Bool.false #[] ([] : List Nat) 0 Bool.false Bool.false Bool.false (0 : Int) [(2000 : Int), (10 : Int), (10 : Int)] Bool.false 0 Bool.true ([] : List Nat) ([] : List Nat) 0 Bool.false) (Array.mk ([] : List PySem.GenState)) (PySem.Drawn.mk 0 0 0 0) 408 os) (PySem.W.piecesOf hd.sts_214 hd.env_41 (PySem.Code.body (PySem.W.behindTheImports pE) hd.env_41) (PySem.Pos.mk 69 0 75 56) [(PySem.W.topFrame (PySem.Pos.mk 0 0 0 0))])))) = ((fun (os : PySem.OsState) => (Option.some (PySem.Flow.next, ((PySem.W.SharedT.mk (hd.tree_228 (PySem.World.params w)) 171 (PySem.Life.mk ([] : List Nat) ([] : List Nat) ([] : List Nat) 0 ([] : List (Prod Nat Nat)) ([] : List Nat) Bool.false #[] ([] : List Nat) 0 Bool.false Bool.false Bool.false (0 : Int) [(2000 : Int), (10 : Int), (10 : Int)] Bool.false 0 Bool.true ([] : List Nat) ([] : List Nat) 0 Bool.false) (Array.mk ([] : List PySem.GenState)) (PySem.Drawn.mk 0 0 0 0) 424 os), ((PySem.Code.body (PySem.W.behindTheImports pE) hd.env_41), (PySem.Pos.mk 76 0 77 8)))))))) := by rewrite [PySem.W.Fast.te10110043849684766642, PySem.W.Fast.te14364793385576792824]; kernel_rfl
theorem hd.q_279 (w : PySem.World) : (((fun (os : PySem.OsState) => (PySem.W.segRunT PySem.treeTable pE w 11 (Option.some (PySem.Value.ref 6)) 1 395 (PySem.W.SharedT.mk (hd.tree_228 (PySem.World.params w)) 171 (PySem.Life.mk ([] : List Nat) ([] : List Nat) ([] : List Nat) 0 ([] : List (Prod Nat Nat)) ([] : List Nat) Bool.false #[] ([] : List Nat) 0 Bool.false Bool.false Bool.false (0 : Int) [(2000 : Int), (10 : Int), (10 : Int)] Bool.false 0 Bool.true ([] : List Nat) ([] : List Nat) 0 Bool.false) (Array.mk ([] : List PySem.GenState)) (PySem.Drawn.mk 0 0 0 0) 424 os) (PySem.W.piecesOf hd.sts_229 hd.env_41 (PySem.Code.body (PySem.W.behindTheImports pE) hd.env_41) (PySem.Pos.mk 76 0 77 8) [(PySem.W.topFrame (PySem.Pos.mk 0 0 0 0))])))) = ((fun (os : PySem.OsState) => (Option.some (PySem.Flow.next, ((PySem.W.SharedT.mk (hd.tree_278 (PySem.World.params w)) 218 (PySem.Life.mk ([] : List Nat) ([] : List Nat) ([] : List Nat) 0 ([] : List (Prod Nat Nat)) ([] : List Nat) Bool.false #[] ([] : List Nat) 0 Bool.false Bool.false Bool.false (0 : Int) [(2000 : Int), (10 : Int), (10 : Int)] Bool.false 0 Bool.true ([] : List Nat) ([] : List Nat) 0 Bool.false) (Array.mk ([] : List PySem.GenState)) (PySem.Drawn.mk 0 0 0 0) 489 os), ((PySem.Code.body (PySem.W.behindTheImports pE) hd.env_41), (PySem.Pos.mk 176 0 178 425)))))))) := by rewrite [PySem.W.Fast.te10110043849684766642, PySem.W.Fast.te14364793385576792824]; kernel_rfl
theorem hd.q_293 (w : PySem.World) : (((fun (os : PySem.OsState) => (PySem.W.segRunT PySem.treeTable pE w 11 (Option.some (PySem.Value.ref 6)) 1 62 (PySem.W.SharedT.mk (hd.tree_278 (PySem.World.params w)) 218 (PySem.Life.mk ([] : List Nat) ([] : List Nat) ([] : List Nat) 0 ([] : List (Prod Nat Nat)) ([] : List Nat) Bool.false #[] ([] : List Nat) 0 Bool.false Bool.false Bool.false (0 : Int) [(2000 : Int), (10 : Int), (10 : Int)] Bool.false 0 Bool.true ([] : List Nat) ([] : List Nat) 0 Bool.false) (Array.mk ([] : List PySem.GenState)) (PySem.Drawn.mk 0 0 0 0) 489 os) (PySem.W.piecesOf hd.sts_279 hd.env_41 (PySem.Code.body (PySem.W.behindTheImports pE) hd.env_41) (PySem.Pos.mk 176 0 178 425) [(PySem.W.topFrame (PySem.Pos.mk 0 0 0 0))])))) = ((fun (os : PySem.OsState) => (Option.some (PySem.Flow.next, ((PySem.W.SharedT.mk (hd.tree_292 (PySem.World.params w)) 230 (PySem.Life.mk ([] : List Nat) ([] : List Nat) ([] : List Nat) 0 ([] : List (Prod Nat Nat)) ([] : List Nat) Bool.false #[] ([] : List Nat) 0 Bool.false Bool.false Bool.false (0 : Int) [(2000 : Int), (10 : Int), (10 : Int)] Bool.false 0 Bool.true ([] : List Nat) ([] : List Nat) 0 Bool.false) (Array.mk ([] : List PySem.GenState)) (PySem.Drawn.mk 0 0 0 0) 508 os), ((PySem.Code.body (PySem.W.behindTheImports pE) hd.env_41), (PySem.Pos.mk 188 0 200 15)))))))) := by rewrite [PySem.W.Fast.te10110043849684766642, PySem.W.Fast.te14364793385576792824]; kernel_rfl
theorem hd.q_295 (w : PySem.World) : (((fun (os : PySem.OsState) => (PySem.W.topRun PySem.treeTable pE w 11 (Option.some (PySem.Value.ref 6)) 2 (PySem.W.SharedT.abs (PySem.W.SharedT.mk (hd.tree_292 (PySem.World.params w)) 230 (PySem.Life.mk ([] : List Nat) ([] : List Nat) ([] : List Nat) 0 ([] : List (Prod Nat Nat)) ([] : List Nat) Bool.false #[] ([] : List Nat) 0 Bool.false Bool.false Bool.false (0 : Int) [(2000 : Int), (10 : Int), (10 : Int)] Bool.false 0 Bool.true ([] : List Nat) ([] : List Nat) 0 Bool.false) (Array.mk ([] : List PySem.GenState)) (PySem.Drawn.mk 0 0 0 0) 508 os)) (PySem.Thread.mk (PySem.W.doneF PySem.Flow.next) (PySem.Code.body (PySem.W.behindTheImports pE) hd.env_41) (PySem.Pos.mk 188 0 200 15) [(PySem.W.topFrame (PySem.Pos.mk 0 0 0 0))])))) = ((fun (os : PySem.OsState) => (Option.some (PySem.Shared.mk (hd.heap_293 (PySem.World.params w)) (Array.mk ([] : List PySem.GenState)) (PySem.Drawn.mk 0 0 0 0) 508 os))))) := by rewrite [PySem.W.Fast.te14082659384304107361, PySem.W.Fast.te14364793385576792824]; kernel_rfl
theorem hd.q_298 (w : PySem.World) : ((((Bool.and (PySem.Heap.isNs (PySem.W.boot_heap (PySem.World.params w)) PySem.mainGlobals) (BEq.beq (Array.size (Array.mk ([] : List PySem.GenState))) 0)), ((Array.size (PySem.Heap.objs (PySem.W.boot_heap (PySem.World.params w)))), (PySem.Heap.nsMap (PySem.W.boot_heap (PySem.World.params w)) PySem.mainGlobals (PySem.Str.ofString "__annotations__"))))) = ((Bool.true, (11, (Option.some (PySem.Value.ref 6)))))) := by rewrite [PySem.W.Fast.te8920871248978507458]; kernel_rfl
theorem hd.q_300 (w : PySem.World) : (((fun (os : PySem.OsState) => (Bool.and (Bool.and (Bool.and (PySem.W.staticsOk (PySem.importedModules (PySem.Module.body (PySem.Program.main pE))) (PySem.W.boot_heap (PySem.World.params w)) (hd.heap_293 (PySem.World.params w))) (PySem.W.namesBound pE (hd.heap_293 (PySem.World.params w)))) (PySem.W.gensDone (PySem.Shared.mk (hd.heap_293 (PySem.World.params w)) (Array.mk ([] : List PySem.GenState)) (PySem.Drawn.mk 0 0 0 0) 508 os))) (PySem.W.laidKept (PySem.W.boot_heap (PySem.World.params w)) (hd.heap_293 (PySem.World.params w)))))) = ((fun (os : PySem.OsState) => Bool.true))) := by rewrite [PySem.W.Fast.te5923862056798008813]; kernel_rfl
theorem hd.q_302 (w : PySem.World) : (((fun (os : PySem.OsState) => (PyProof.Rows.seen (List.map (fun (x : PySem.DefRec) => (PySem.DefRec.name x)) (PyProof.Rows.recsOf hd.view_39)) (PyProof.Rows.ownsOf hd.view_39) ([] : List PySem.Str) (PySem.Shared.mk (PySem.Shared.heap (PySem.Shared.mk (hd.heap_293 (PySem.World.params w)) (Array.mk ([] : List PySem.GenState)) (PySem.Drawn.mk 0 0 0 0) 508 os)) #[] (PySem.Shared.drawn (PySem.Shared.mk (hd.heap_293 (PySem.World.params w)) (Array.mk ([] : List PySem.GenState)) (PySem.Drawn.mk 0 0 0 0) 508 os)) (PySem.Shared.toks (PySem.Shared.mk (hd.heap_293 (PySem.World.params w)) (Array.mk ([] : List PySem.GenState)) (PySem.Drawn.mk 0 0 0 0) 508 os)) (PySem.Shared.os (PySem.Shared.mk (hd.heap_293 (PySem.World.params w)) (Array.mk ([] : List PySem.GenState)) (PySem.Drawn.mk 0 0 0 0) 508 os)))))) = ((fun (os : PySem.OsState) => (PyProof.Rows.expectedOf hd.view_39)))) := by rewrite [PySem.W.Fast.te5160383126252970620, PySem.W.R.mapR_eq, PySem.W.Fast.te3399658132070893891, PySem.W.Fast.te5991557255702980513]; kernel_rfl
theorem hd.q_304 (w : PySem.World) : (((fun (os : PySem.OsState) => (PySem.Heap.bltView (PySem.Shared.heap (PySem.Shared.mk (hd.heap_293 (PySem.World.params w)) (Array.mk ([] : List PySem.GenState)) (PySem.Drawn.mk 0 0 0 0) 508 os))))) = ((fun (os : PySem.OsState) => PySem.bltViewBooted))) := by kernel_rfl
theorem hd.q_306 (w : PySem.World) : (((fun (os : PySem.OsState) => (Bool.and (Bool.and (Bool.and (Bool.and (Bool.and (Bool.and (PySem.Heap.keysOk (PySem.Shared.heap (PySem.Shared.mk (hd.heap_293 (PySem.World.params w)) (Array.mk ([] : List PySem.GenState)) (PySem.Drawn.mk 0 0 0 0) 508 os)) (PySem.W.looseW hd.view_39 [(PySem.Str.ofString "Error"), (PySem.Str.ofString "DuplicateSectionError"), (PySem.Str.ofString "DuplicateOptionError")]) (List.map (fun (x : PySem.DefRec) => (PySem.DefRec.name x)) (PyProof.Rows.recsOf hd.view_39)) (List.map (fun (x : (Prod PySem.Str PySem.PyData)) => (Prod.fst x)) (PyProof.Rows.litsOf hd.view_39)) (List.map (fun (x : PySem.ClsRec) => (PySem.ClsRec.name x)) (PyProof.Rows.clssOf hd.view_39 (PySem.W.looseW hd.view_39 [(PySem.Str.ofString "Error"), (PySem.Str.ofString "DuplicateSectionError"), (PySem.Str.ofString "DuplicateOptionError")])))) (PySem.Heap.accountedOkI (PySem.Shared.heap (PySem.Shared.mk (hd.heap_293 (PySem.World.params w)) (Array.mk ([] : List PySem.GenState)) (PySem.Drawn.mk 0 0 0 0) 508 os)) (PySem.importedModules (PySem.Module.body (PySem.Program.main pE))))) (PySem.Heap.isNs (PySem.Shared.heap (PySem.Shared.mk (hd.heap_293 (PySem.World.params w)) (Array.mk ([] : List PySem.GenState)) (PySem.Drawn.mk 0 0 0 0) 508 os)) PySem.mainGlobals)) (PySem.Heap.isNs (PySem.Shared.heap (PySem.Shared.mk (hd.heap_293 (PySem.World.params w)) (Array.mk ([] : List PySem.GenState)) (PySem.Drawn.mk 0 0 0 0) 508 os)) PySem.builtinsNs)) (PyProof.Rows.tablesOk hd.view_39 (PySem.Shared.heap (PySem.Shared.mk (hd.heap_293 (PySem.World.params w)) (Array.mk ([] : List PySem.GenState)) (PySem.Drawn.mk 0 0 0 0) 508 os)))) ((fun (s : PySem.Shared) => (Bool.and (PySem.W.xlAt hd.view_39 ([] : List (Prod PySem.Str PySem.W.WData)) s) (PySem.W.recOk (PySem.W.RowW.records (PySem.W.OpenRow.toRowW (PySem.W.OpenLaw.row PySem.Challenge.rw_dv0002_02))) s))) (PySem.Shared.mk (hd.heap_293 (PySem.World.params w)) (Array.mk ([] : List PySem.GenState)) (PySem.Drawn.mk 0 0 0 0) 508 os))) (ite ((Bool.true) = (Bool.true)) (BEq.beq (Array.size (PySem.Shared.gens (PySem.Shared.mk (hd.heap_293 (PySem.World.params w)) (Array.mk ([] : List PySem.GenState)) (PySem.Drawn.mk 0 0 0 0) 508 os))) 0) (Bool.not (PySem.leftWithCleanup (PySem.Shared.gens (PySem.Shared.mk (hd.heap_293 (PySem.World.params w)) (Array.mk ([] : List PySem.GenState)) (PySem.Drawn.mk 0 0 0 0) 508 os)))))))) = ((fun (os : PySem.OsState) => Bool.true))) := by rewrite [PySem.W.Fast.te10880121769531294198, PySem.W.Fast.te821141287760084731, PySem.W.R.mapR_eq, PySem.W.Fast.te3399658132070893891, PySem.W.Fast.te7409074990110511671, PySem.W.Fast.te13664370479719496447, PySem.W.Fast.te14722251495701143533, PySem.W.Fast.te5923862056798008813, PySem.W.Fast.te10994771534591457954]; kernel_rfl
theorem hd.q_308 (w : PySem.World) : (((fun (os : PySem.OsState) => (PyProof.Rows.tabsOk hd.view_39 (PySem.Shared.mk (hd.heap_293 (PySem.World.params w)) (Array.mk ([] : List PySem.GenState)) (PySem.Drawn.mk 0 0 0 0) 508 os)))) = ((fun (os : PySem.OsState) => Bool.true))) := by rewrite [PySem.W.Fast.te479339242167458305]; kernel_rfl
theorem hd.q_310 (w : PySem.World) : (((fun (os : PySem.OsState) => (PySem.pinSeenD hd.view_39 (PyProof.Rows.drecsOf hd.view_39) (PySem.Shared.mk (hd.heap_293 (PySem.World.params w)) (Array.mk ([] : List PySem.GenState)) (PySem.Drawn.mk 0 0 0 0) 508 os)))) = ((fun (os : PySem.OsState) => (PySem.pinGoodD (PyProof.Rows.drecsOf hd.view_39))))) := by rewrite [PySem.W.Fast.te16090120013241838585, PySem.W.Fast.te3247288618530077131]; kernel_rfl
theorem hd.q_312 (w : PySem.World) : (((fun (os : PySem.OsState) => (PyProof.Rows.plainSeenE hd.view_39 (PySem.W.looseW hd.view_39 [(PySem.Str.ofString "Error"), (PySem.Str.ofString "DuplicateSectionError"), (PySem.Str.ofString "DuplicateOptionError")]) (PySem.Shared.mk (hd.heap_293 (PySem.World.params w)) (Array.mk ([] : List PySem.GenState)) (PySem.Drawn.mk 0 0 0 0) 508 os)))) = ((fun (os : PySem.OsState) => (PyProof.Rows.plainGoodE hd.view_39 (PySem.W.looseW hd.view_39 [(PySem.Str.ofString "Error"), (PySem.Str.ofString "DuplicateSectionError"), (PySem.Str.ofString "DuplicateOptionError")]))))) := by rewrite [PySem.W.Fast.te2386780881361962483, PySem.W.Fast.te821141287760084731]; kernel_rfl
theorem hd.q_314 (w : PySem.World) : (((fun (os : PySem.OsState) => (PyProof.Rows.plainSeenD hd.view_39 [(PySem.Str.ofString "Error"), (PySem.Str.ofString "DuplicateSectionError"), (PySem.Str.ofString "DuplicateOptionError")] (PySem.Shared.mk (hd.heap_293 (PySem.World.params w)) (Array.mk ([] : List PySem.GenState)) (PySem.Drawn.mk 0 0 0 0) 508 os)))) = ((fun (os : PySem.OsState) => (PyProof.Rows.plainGoodD hd.view_39 [(PySem.Str.ofString "Error"), (PySem.Str.ofString "DuplicateSectionError"), (PySem.Str.ofString "DuplicateOptionError")])))) := by rewrite [PySem.W.Fast.te11698064438423848299]; kernel_rfl
theorem hd.q_316 (w : PySem.World) : (((fun (os : PySem.OsState) => (PySem.W.wideSeen hd.view_39 (PySem.Shared.mk (hd.heap_293 (PySem.World.params w)) (Array.mk ([] : List PySem.GenState)) (PySem.Drawn.mk 0 0 0 0) 508 os)))) = ((fun (os : PySem.OsState) => (PySem.W.wideGood hd.view_39)))) := by rewrite [PySem.W.Fast.te7317090234206586261]; kernel_rfl
theorem hd.q_318 (w : PySem.World) : (((fun (os : PySem.OsState) => (PySem.W.clsSeenW hd.view_39 [(PySem.Str.ofString "Error"), (PySem.Str.ofString "DuplicateSectionError"), (PySem.Str.ofString "DuplicateOptionError")] (PySem.Shared.mk (hd.heap_293 (PySem.World.params w)) (Array.mk ([] : List PySem.GenState)) (PySem.Drawn.mk 0 0 0 0) 508 os)))) = ((fun (os : PySem.OsState) => (PySem.W.clsGoodW hd.view_39 [(PySem.Str.ofString "Error"), (PySem.Str.ofString "DuplicateSectionError"), (PySem.Str.ofString "DuplicateOptionError")])))) := by rewrite [PySem.W.Fast.te7369524293546568484]; kernel_rfl
theorem hd.q_328 (w : PySem.World) : (((fun (os : PySem.OsState) => (PySem.W.Hook.obs (PySem.W.kHook hd.heap_39 (2 :: 3 :: 15 :: 22 :: 23 :: 25 :: 26 :: 28 :: 29 :: 30 :: 32 :: 33 :: 35 :: 36 :: 37 :: 38 :: 39 :: 40 :: 43 :: 50 :: 52 :: 53 :: 55 :: 56 :: 57 :: 58 :: 59 :: 62 :: 69 :: 70 :: 72 :: 73 :: 75 :: 76 :: 77 :: 78 :: 79 :: 82 :: 89 :: 90 :: 92 :: 93 :: 95 :: 96 :: 97 :: 98 :: 99 :: 102 :: 109 :: 111 :: 112 :: 114 :: 115 :: 116 :: 117 :: 118 :: 121 :: 128 :: 130 :: 131 :: 133 :: 134 :: 135 :: 136 :: 137 :: 140 :: 147 :: 149 :: 150 :: 152 :: 153 :: 154 :: 155 :: 156 :: 159 :: 166 :: 167 :: 168 :: 171 :: 178 :: 180 :: 181 :: 183 :: 184 :: 185 :: 186 :: 187 :: 190 :: 192 :: 193 :: 195 :: 196 :: 197 :: 199 :: 200 :: 202 :: 203 :: 204 :: 206 :: 207 :: 209 :: 210 :: 211 :: 213 :: 214 :: 216 :: 217 :: 218 :: 220 :: 221 :: 223 :: 224 :: 225 :: 228 :: 229 :: []) (fun (x : PySem.Params) => (id (Eq.refl (2 :: 3 :: 15 :: 22 :: 23 :: 25 :: 26 :: 28 :: 29 :: 30 :: 32 :: 33 :: 35 :: 36 :: 37 :: 38 :: 39 :: 40 :: 43 :: 50 :: 52 :: 53 :: 55 :: 56 :: 57 :: 58 :: 59 :: 62 :: 69 :: 70 :: 72 :: 73 :: 75 :: 76 :: 77 :: 78 :: 79 :: 82 :: 89 :: 90 :: 92 :: 93 :: 95 :: 96 :: 97 :: 98 :: 99 :: 102 :: 109 :: 111 :: 112 :: 114 :: 115 :: 116 :: 117 :: 118 :: 121 :: 128 :: 130 :: 131 :: 133 :: 134 :: 135 :: 136 :: 137 :: 140 :: 147 :: 149 :: 150 :: 152 :: 153 :: 154 :: 155 :: 156 :: 159 :: 166 :: 167 :: 168 :: 171 :: 178 :: 180 :: 181 :: 183 :: 184 :: 185 :: 186 :: 187 :: 190 :: 192 :: 193 :: 195 :: 196 :: 197 :: 199 :: 200 :: 202 :: 203 :: 204 :: 206 :: 207 :: 209 :: 210 :: 211 :: 213 :: 214 :: 216 :: 217 :: 218 :: 220 :: 221 :: 223 :: 224 :: 225 :: 228 :: 229 :: []))))) (PySem.Shared.mk (hd.heap_293 (PySem.World.params w)) (Array.mk ([] : List PySem.GenState)) (PySem.Drawn.mk 0 0 0 0) 508 os)))) = ((fun (os : PySem.OsState) => (PySem.W.Hook.val (PySem.W.kHook hd.heap_39 (2 :: 3 :: 15 :: 22 :: 23 :: 25 :: 26 :: 28 :: 29 :: 30 :: 32 :: 33 :: 35 :: 36 :: 37 :: 38 :: 39 :: 40 :: 43 :: 50 :: 52 :: 53 :: 55 :: 56 :: 57 :: 58 :: 59 :: 62 :: 69 :: 70 :: 72 :: 73 :: 75 :: 76 :: 77 :: 78 :: 79 :: 82 :: 89 :: 90 :: 92 :: 93 :: 95 :: 96 :: 97 :: 98 :: 99 :: 102 :: 109 :: 111 :: 112 :: 114 :: 115 :: 116 :: 117 :: 118 :: 121 :: 128 :: 130 :: 131 :: 133 :: 134 :: 135 :: 136 :: 137 :: 140 :: 147 :: 149 :: 150 :: 152 :: 153 :: 154 :: 155 :: 156 :: 159 :: 166 :: 167 :: 168 :: 171 :: 178 :: 180 :: 181 :: 183 :: 184 :: 185 :: 186 :: 187 :: 190 :: 192 :: 193 :: 195 :: 196 :: 197 :: 199 :: 200 :: 202 :: 203 :: 204 :: 206 :: 207 :: 209 :: 210 :: 211 :: 213 :: 214 :: 216 :: 217 :: 218 :: 220 :: 221 :: 223 :: 224 :: 225 :: 228 :: 229 :: []) (fun (x : PySem.Params) => (id (Eq.refl (2 :: 3 :: 15 :: 22 :: 23 :: 25 :: 26 :: 28 :: 29 :: 30 :: 32 :: 33 :: 35 :: 36 :: 37 :: 38 :: 39 :: 40 :: 43 :: 50 :: 52 :: 53 :: 55 :: 56 :: 57 :: 58 :: 59 :: 62 :: 69 :: 70 :: 72 :: 73 :: 75 :: 76 :: 77 :: 78 :: 79 :: 82 :: 89 :: 90 :: 92 :: 93 :: 95 :: 96 :: 97 :: 98 :: 99 :: 102 :: 109 :: 111 :: 112 :: 114 :: 115 :: 116 :: 117 :: 118 :: 121 :: 128 :: 130 :: 131 :: 133 :: 134 :: 135 :: 136 :: 137 :: 140 :: 147 :: 149 :: 150 :: 152 :: 153 :: 154 :: 155 :: 156 :: 159 :: 166 :: 167 :: 168 :: 171 :: 178 :: 180 :: 181 :: 183 :: 184 :: 185 :: 186 :: 187 :: 190 :: 192 :: 193 :: 195 :: 196 :: 197 :: 199 :: 200 :: 202 :: 203 :: 204 :: 206 :: 207 :: 209 :: 210 :: 211 :: 213 :: 214 :: 216 :: 217 :: 218 :: 220 :: 221 :: 223 :: 224 :: 225 :: 228 :: 229 :: []))))) w)))) := by kernel_rfl
theorem hd.said : PySem.W.OpenLaw.wellSaid PySem.Challenge.rw_dv0002_02 = true := by
  delta PySem.W.OpenLaw.wellSaid
  refine PySem.W.look_both ?_ ?_
  · skip
    refine PySem.W.look_both ?_ ?_
    · skip
      refine PySem.W.look_both ?_ ?_
      · skip
        refine PySem.W.look_both ?_ ?_
        · skip
          refine PySem.W.look_both ?_ ?_
          · skip
            refine PySem.W.look_both ?_ ?_
            · skip
              refine PySem.W.look_both ?_ ?_
              · skip
                refine PySem.W.look_both ?_ ?_
                · skip
                  refine PySem.W.look_both ?_ ?_
                  · skip
                    refine PySem.W.look_both ?_ ?_
                    · skip
                      refine PySem.W.look_both ?_ ?_
                      · skip
                        refine PySem.W.look_both ?_ ?_
                        · skip
                          refine PySem.W.look_both ?_ ?_
                          · skip
                            refine PySem.W.look_both ?_ ?_
                            · skip
                              refine PySem.W.look_both ?_ ?_
                              · skip
                                refine PySem.W.look_both ?_ ?_
                                · skip
                                  refine PySem.W.look_both ?_ ?_
                                  · skip
                                    refine PySem.W.look_both ?_ ?_
                                    · skip
                                      delta PySem.W.OpenRow.wellSaid
                                      refine PySem.W.look_both ?_ ?_
                                      · skip
                                        refine PySem.W.look_both ?_ ?_
                                        · skip
                                          delta PySem.W.OpenRow.partSaid
                                          refine PySem.W.look_both ?_ ?_
                                          · skip
                                            refine PySem.W.look_both ?_ ?_
                                            · skip
                                              refine PySem.W.look_both ?_ ?_
                                              · skip
                                                refine PySem.W.look_both ?_ ?_
                                                · skip
                                                  refine PySem.W.look_both ?_ ?_
                                                  · skip
                                                    refine PySem.W.look_both ?_ ?_
                                                    · skip
                                                      refine PySem.W.look_both ?_ ?_
                                                      · skip
                                                        refine PySem.W.look_both ?_ ?_
                                                        · skip
                                                          refine PySem.W.look_both ?_ ?_
                                                          · skip
                                                            refine PySem.W.look_both ?_ ?_
                                                            · skip
                                                              refine PySem.W.look_both ?_ ?_
                                                              · skip
                                                                refine PySem.W.look_both ?_ ?_
                                                                · skip
                                                                  refine PySem.W.look_both ?_ ?_
                                                                  · skip
                                                                    delta PySem.W.looksOpen
                                                                    refine PySem.W.look_both ?_ ?_
                                                                    · skip
                                                                      refine PySem.W.look_both ?_ ?_
                                                                      · skip
                                                                        refine PySem.W.look_both ?_ ?_
                                                                        · skip
                                                                          refine PySem.W.look_both ?_ ?_
                                                                          · skip
                                                                            refine PySem.W.look_both ?_ ?_
                                                                            · skip
                                                                              rewrite [PySem.W.Fast.te11788848310118352699, PySem.W.Fast.te2368527892694137696]; kernel_rfl
                                                                            · skip
                                                                              rewrite [PySem.W.Fast.te9807087744658564304, PySem.W.Fast.te2368527892694137696, PySem.W.Fast.te12862048085361865435]; kernel_rfl
                                                                          · skip
                                                                            rewrite [PySem.W.Fast.te8377067652309620493, PySem.W.Fast.te2368527892694137696]; kernel_rfl
                                                                        · skip
                                                                          rewrite [PySem.W.R.allR_eq, PySem.W.Fast.te18344453789297297638, PySem.W.Fast.te2368527892694137696, PySem.W.Fast.te3471404346716756564, PySem.W.Fast.sDec_eq, PySem.W.Fast.te14412699480532031325]; kernel_rfl
                                                                      · skip
                                                                        rewrite [PySem.W.Fast.te8326940854005059898, PySem.W.R.allR_eq, PySem.W.Fast.te5923862056798008813, PySem.W.Fast.te2368527892694137696, PySem.W.Fast.te3471404346716756564, PySem.W.Fast.sDec_eq, PySem.W.Fast.te17691160309236699985, PySem.W.R.filterR_eq, PySem.W.Fast.te13343964577679436407]; kernel_rfl
                                                                    · skip
                                                                      rewrite [PySem.W.Fast.te17119622794617984870, PySem.W.Fast.te2368527892694137696, PySem.W.Fast.te17868728402115742887]; kernel_rfl
                                                                  · skip
                                                                    rewrite [PySem.W.Fast.te2368527892694137696]; kernel_rfl
                                                                · skip
                                                                  rewrite [PySem.W.Fast.te2368527892694137696]; kernel_rfl
                                                              · skip
                                                                rewrite [PySem.W.Fast.te2368527892694137696, PySem.W.R.allR_eq, PySem.W.Fast.te9706382859710513879]; kernel_rfl
                                                            · skip
                                                              rewrite [PySem.W.R.allR_eq, PySem.W.Fast.te2368527892694137696, PySem.W.Fast.te3471404346716756564, PySem.W.Fast.sDec_eq, PySem.W.Fast.te18344453789297297638, PySem.W.S.strDecS_eq, PySem.W.Fast.te2357444279172408678]; kernel_rfl
                                                          · skip
                                                            rewrite [PySem.W.R.mapR_eq, PySem.W.Fast.te2368527892694137696, PySem.W.Fast.sDec_eq]; kernel_rfl
                                                        · skip
                                                          rewrite [PySem.W.R.allR_eq, PySem.W.Fast.te2368527892694137696, PySem.W.Fast.te4857012375875476094, PySem.W.Fast.named_eq, PySem.W.Fast.te3471404346716756564, PySem.W.Fast.sDec_eq, PySem.W.Fast.te18344453789297297638]; kernel_rfl
                                                      · skip
                                                        rewrite [PySem.W.Fast.te13582783067957832011, PySem.W.Fast.te2368527892694137696]; kernel_rfl
                                                    · skip
                                                      rewrite [PySem.W.Fast.te5318747976498570220, PySem.W.Fast.te2368527892694137696]; kernel_rfl
                                                  · skip
                                                    rewrite [PySem.W.Fast.te5318747976498570220, PySem.W.Fast.te2368527892694137696]; kernel_rfl
                                                · skip
                                                  rewrite [PySem.W.R.allR_eq, PySem.W.Fast.te2368527892694137696, PySem.W.Fast.te5318747976498570220]; kernel_rfl
                                              · skip
                                                rewrite [PySem.W.R.allR_eq, PySem.W.Fast.te2368527892694137696, PySem.W.Fast.te4579403493507170074, PySem.W.R.anyR_eq, PySem.W.Fast.te4274047373036748609]; kernel_rfl
                                            · skip
                                              rewrite [PySem.W.R.allR_eq, PySem.W.Fast.te2368527892694137696]; kernel_rfl
                                          · skip
                                            rewrite [PySem.W.Fast.te2368527892694137696]; kernel_rfl
                                        · skip
                                          rewrite [PySem.W.Fast.te3471404346716756564, PySem.W.Fast.sDec_eq, PySem.W.Fast.te18344453789297297638, PySem.W.Fast.te2368527892694137696]; kernel_rfl
                                      · skip
                                        rewrite [PySem.W.Fast.te3471404346716756564, PySem.W.Fast.sDec_eq, PySem.W.Fast.te12749700546528644094, PySem.W.Fast.te2368527892694137696]; kernel_rfl
                                    · skip
                                      kernel_rfl
                                  · skip
                                    rewrite [PySem.W.R.allR_eq, PySem.W.Fast.te10501279942588096481]; kernel_rfl
                                · skip
                                  rewrite [PySem.W.Fast.te8179353310426384613]; kernel_rfl
                              · skip
                                kernel_rfl
                            · skip
                              kernel_rfl
                          · skip
                            rewrite [PySem.W.Fast.te8326940854005059898, PySem.W.Fast.te797321630700447069, PySem.W.Fast.te9572597257264208301]; kernel_rfl
                        · skip
                          rewrite [PySem.W.Fast.te9558739934217749035]; kernel_rfl
                      · skip
                        rewrite [PySem.W.Fast.te16286561074155671207]; kernel_rfl
                    · skip
                      rewrite [PySem.W.R.allR_eq, PySem.W.Fast.sDec_eq]; kernel_rfl
                  · skip
                    rewrite [PySem.W.R.allR_eq, PySem.W.Fast.te797321630700447069, PySem.W.Fast.named_eq, PySem.W.Fast.sDec_eq, PySem.W.Fast.te6984425678791042302]; kernel_rfl
                · skip
                  rewrite [PySem.W.R.allR_eq, PySem.W.Fast.te17095254045102204799, PySem.W.Fast.te12879404354523853263, PySem.W.Fast.te6984425678791042302]; kernel_rfl
              · skip
                rewrite [PySem.W.R.allR_eq, PySem.W.Fast.te17095254045102204799, PySem.W.Fast.te12879404354523853263, PySem.W.Fast.te6984425678791042302, PySem.W.Fast.te482687673346738481, PySem.W.Fast.sDec_eq]; kernel_rfl
            · skip
              rewrite [PySem.W.Fast.te17119622794617984870, PySem.W.Fast.te3471404346716756564, PySem.W.Fast.sDec_eq, PySem.W.Fast.te9572597257264208301]; kernel_rfl
          · skip
            rewrite [PySem.W.Fast.te3471404346716756564, PySem.W.Fast.sDec_eq, PySem.W.Fast.te10792542408131684335]; kernel_rfl
        · skip
          rewrite [PySem.W.Fast.te7723801398212525404, PySem.W.Fast.sDec_eq, PySem.W.Fast.te10792542408131684335]; kernel_rfl
      · skip
        rewrite [PySem.W.R.allR_eq, PySem.W.Fast.te10792542408131684335, PySem.W.Fast.named_eq]; kernel_rfl
    · skip
      rewrite [PySem.W.Fast.te17119622794617984870, PySem.W.Fast.te3471404346716756564, PySem.W.Fast.sDec_eq, PySem.W.Fast.te10792542408131684335]; kernel_rfl
  · skip
    rewrite [PySem.W.Fast.te17119622794617984870, PySem.W.Fast.sDec_eq]; kernel_rfl
theorem hd.body : PySem.W.behindTheImports pE = (hd.sts_49 ++ (hd.sts_80 ++ (hd.sts_102 ++ (hd.sts_125 ++ (hd.sts_148 ++ (hd.sts_170 ++ (hd.sts_192 ++ (hd.sts_214 ++ (hd.sts_229 ++ (hd.sts_279 ++ ([] : List PySem.Stmt))))))))))) := by kernel_rfl
theorem hd.run (w : PySem.World) (os : PySem.OsState) : PySem.W.topRun PySem.treeTable pE w 11 (Option.some (PySem.Value.ref 6)) (12 + (1 + (293 + (247 + (254 + (256 + (249 + (250 + (265 + (228 + (395 + (62 + 2)))))))))))) (PySem.Shared.mk (PySem.W.boot_heap (PySem.World.params w)) (Array.mk ([] : List PySem.GenState)) PySem.W.boot_drawn PySem.W.boot_toks os) (PySem.W.topStub pE) = (Option.some (PySem.Shared.mk (hd.heap_293 (PySem.World.params w)) (Array.mk ([] : List PySem.GenState)) (PySem.Drawn.mk 0 0 0 0) 508 os)) := by
  refine PySem.W.go_top (congrFun (hd.q_47 w) os) (PySem.W.piece_block (congrFun (hd.q_49 w) os) ?_)
  refine Eq.mpr (congrArg (fun b => PySem.W.topRun PySem.treeTable pE w 11 (Option.some (PySem.Value.ref 6)) (293 + (247 + (254 + (256 + (249 + (250 + (265 + (228 + (395 + (62 + 2)))))))))) (PySem.W.SharedT.abs (PySem.W.SharedT.mk (hd.tree_47 (PySem.World.params w)) 15 (PySem.Life.mk ([] : List Nat) ([] : List Nat) ([] : List Nat) 0 ([] : List (Prod Nat Nat)) ([] : List Nat) Bool.false #[] ([] : List Nat) 0 Bool.false Bool.false Bool.false (0 : Int) [(2000 : Int), (10 : Int), (10 : Int)] Bool.false 0 Bool.true ([] : List Nat) ([] : List Nat) 0 Bool.false) (Array.mk ([] : List PySem.GenState)) (PySem.Drawn.mk 0 0 0 0) 187 os)) (PySem.W.restOf b hd.env_41 (PySem.Code.body (PySem.W.behindTheImports pE) hd.env_41) (PySem.Pos.mk 0 0 0 0) [(PySem.W.topFrame (PySem.Pos.mk 0 0 0 0))]) = (Option.some (PySem.Shared.mk (hd.heap_293 (PySem.World.params w)) (Array.mk ([] : List PySem.GenState)) (PySem.Drawn.mk 0 0 0 0) 508 os))) hd.body) ?_
  refine PySem.W.piece_app (PySem.W.segRun_of (congrFun (hd.q_80 w) os)) ?_
  refine PySem.W.piece_app (PySem.W.segRun_of (congrFun (hd.q_102 w) os)) ?_
  refine PySem.W.piece_app (PySem.W.segRun_of (congrFun (hd.q_125 w) os)) ?_
  refine PySem.W.piece_app (PySem.W.segRun_of (congrFun (hd.q_148 w) os)) ?_
  refine PySem.W.piece_app (PySem.W.segRun_of (congrFun (hd.q_170 w) os)) ?_
  refine PySem.W.piece_app (PySem.W.segRun_of (congrFun (hd.q_192 w) os)) ?_
  refine PySem.W.piece_app (PySem.W.segRun_of (congrFun (hd.q_214 w) os)) ?_
  refine PySem.W.piece_app (PySem.W.segRun_of (congrFun (hd.q_229 w) os)) ?_
  refine PySem.W.piece_app (PySem.W.segRun_of (congrFun (hd.q_279 w) os)) ?_
  refine PySem.W.piece_app (PySem.W.segRun_of (congrFun (hd.q_293 w) os)) ?_
  exact congrFun (hd.q_295 w) os
theorem hd.left : PySem.W.LeftO pE hd.view_39 [(PySem.Str.ofString "Error"), (PySem.Str.ofString "DuplicateSectionError"), (PySem.Str.ofString "DuplicateOptionError")] (fun s => PySem.W.xlAt hd.view_39 ([] : List (Prod PySem.Str PySem.W.WData)) s && PySem.W.recOk (PySem.W.RowW.records PySem.Challenge.rw_dv0002_02.row.toRowW) s) (PySem.W.Hook.obs (PySem.W.kHook hd.heap_39 (2 :: 3 :: 15 :: 22 :: 23 :: 25 :: 26 :: 28 :: 29 :: 30 :: 32 :: 33 :: 35 :: 36 :: 37 :: 38 :: 39 :: 40 :: 43 :: 50 :: 52 :: 53 :: 55 :: 56 :: 57 :: 58 :: 59 :: 62 :: 69 :: 70 :: 72 :: 73 :: 75 :: 76 :: 77 :: 78 :: 79 :: 82 :: 89 :: 90 :: 92 :: 93 :: 95 :: 96 :: 97 :: 98 :: 99 :: 102 :: 109 :: 111 :: 112 :: 114 :: 115 :: 116 :: 117 :: 118 :: 121 :: 128 :: 130 :: 131 :: 133 :: 134 :: 135 :: 136 :: 137 :: 140 :: 147 :: 149 :: 150 :: 152 :: 153 :: 154 :: 155 :: 156 :: 159 :: 166 :: 167 :: 168 :: 171 :: 178 :: 180 :: 181 :: 183 :: 184 :: 185 :: 186 :: 187 :: 190 :: 192 :: 193 :: 195 :: 196 :: 197 :: 199 :: 200 :: 202 :: 203 :: 204 :: 206 :: 207 :: 209 :: 210 :: 211 :: 213 :: 214 :: 216 :: 217 :: 218 :: 220 :: 221 :: 223 :: 224 :: 225 :: 228 :: 229 :: []) (fun _ => by kernel_rfl))) (PySem.W.Hook.val (PySem.W.kHook hd.heap_39 (2 :: 3 :: 15 :: 22 :: 23 :: 25 :: 26 :: 28 :: 29 :: 30 :: 32 :: 33 :: 35 :: 36 :: 37 :: 38 :: 39 :: 40 :: 43 :: 50 :: 52 :: 53 :: 55 :: 56 :: 57 :: 58 :: 59 :: 62 :: 69 :: 70 :: 72 :: 73 :: 75 :: 76 :: 77 :: 78 :: 79 :: 82 :: 89 :: 90 :: 92 :: 93 :: 95 :: 96 :: 97 :: 98 :: 99 :: 102 :: 109 :: 111 :: 112 :: 114 :: 115 :: 116 :: 117 :: 118 :: 121 :: 128 :: 130 :: 131 :: 133 :: 134 :: 135 :: 136 :: 137 :: 140 :: 147 :: 149 :: 150 :: 152 :: 153 :: 154 :: 155 :: 156 :: 159 :: 166 :: 167 :: 168 :: 171 :: 178 :: 180 :: 181 :: 183 :: 184 :: 185 :: 186 :: 187 :: 190 :: 192 :: 193 :: 195 :: 196 :: 197 :: 199 :: 200 :: 202 :: 203 :: 204 :: 206 :: 207 :: 209 :: 210 :: 211 :: 213 :: 214 :: 216 :: 217 :: 218 :: 220 :: 221 :: 223 :: 224 :: 225 :: 228 :: 229 :: []) (fun _ => by kernel_rfl))) 5104 := by
  refine PySem.W.LeftO.of_pieces (PySem.W.boot_open (by kernel_rfl) (by decide) (fun s => by kernel_rfl)) hd.q_298 hd.run (by decide) (fun w => funext fun os => ?_)
  refine PySem.W.looks_pair (congrFun (hd.q_300 w) os) (PySem.W.looks_pair ?_ (congrFun (hd.q_328 w) os))
  exact (PySem.W.looks_pair (congrFun (hd.q_302 w) os) (PySem.W.looks_pair (congrFun (hd.q_304 w) os) (PySem.W.looks_pair (congrFun (hd.q_306 w) os) (PySem.W.looks_pair (congrFun (hd.q_308 w) os) (PySem.W.looks_pair (congrFun (hd.q_310 w) os) (PySem.W.looks_pair (congrFun (hd.q_312 w) os) (PySem.W.looks_pair (congrFun (hd.q_314 w) os) (PySem.W.looks_pair (congrFun (hd.q_316 w) os) (congrFun (hd.q_318 w) os)))))))))
theorem hd {d : DefRec} {kwd : List (PySem.Str × PySem.Expr)} (h1 : PySem.W.defOf hd.view_39 PySem.Challenge.rw_dv0002_02.row.name = some (d, kwd)) (h2 : PySem.Challenge.rw_dv0002_02.row.prog.theDef PySem.Challenge.rw_dv0002_02.row.name = some (d.params, d.body, d.scope)) (h3 : PySem.W.kwWritten? d.params.kwonlyargs d.params.kw_defaults = some kwd)
    (walk : PySem.W.WalkO hd.view_39 [(PySem.Str.ofString "Error"), (PySem.Str.ofString "DuplicateSectionError"), (PySem.Str.ofString "DuplicateOptionError")] (PySem.W.XL hd.view_39 ([] : List (Prod PySem.Str PySem.W.WData))) (PySem.W.Hook.says (PySem.W.kHook hd.heap_39 (2 :: 3 :: 15 :: 22 :: 23 :: 25 :: 26 :: 28 :: 29 :: 30 :: 32 :: 33 :: 35 :: 36 :: 37 :: 38 :: 39 :: 40 :: 43 :: 50 :: 52 :: 53 :: 55 :: 56 :: 57 :: 58 :: 59 :: 62 :: 69 :: 70 :: 72 :: 73 :: 75 :: 76 :: 77 :: 78 :: 79 :: 82 :: 89 :: 90 :: 92 :: 93 :: 95 :: 96 :: 97 :: 98 :: 99 :: 102 :: 109 :: 111 :: 112 :: 114 :: 115 :: 116 :: 117 :: 118 :: 121 :: 128 :: 130 :: 131 :: 133 :: 134 :: 135 :: 136 :: 137 :: 140 :: 147 :: 149 :: 150 :: 152 :: 153 :: 154 :: 155 :: 156 :: 159 :: 166 :: 167 :: 168 :: 171 :: 178 :: 180 :: 181 :: 183 :: 184 :: 185 :: 186 :: 187 :: 190 :: 192 :: 193 :: 195 :: 196 :: 197 :: 199 :: 200 :: 202 :: 203 :: 204 :: 206 :: 207 :: 209 :: 210 :: 211 :: 213 :: 214 :: 216 :: 217 :: 218 :: 220 :: 221 :: 223 :: 224 :: 225 :: 228 :: 229 :: []) (fun _ => by kernel_rfl))) PySem.Challenge.rw_dv0002_02.row.toRowW d kwd fun f vs => PySem.call f vs) : PySem.Challenge.rw_dv0002_02.Holds :=
  PySem.W.holds_law hd.said fun said => PySem.W.holds_open (q := hd.view_39) (loose := [(PySem.Str.ofString "Error"), (PySem.Str.ofString "DuplicateSectionError"), (PySem.Str.ofString "DuplicateOptionError")]) (Xt := (fun s => PySem.W.xlAt hd.view_39 ([] : List (Prod PySem.Str PySem.W.WData)) s && PySem.W.recOk (PySem.W.RowW.records PySem.Challenge.rw_dv0002_02.row.toRowW) s)) (XP := PySem.W.XL hd.view_39 ([] : List (Prod PySem.Str PySem.W.WData))) (Yf := PySem.W.Hook.obs (PySem.W.kHook hd.heap_39 (2 :: 3 :: 15 :: 22 :: 23 :: 25 :: 26 :: 28 :: 29 :: 30 :: 32 :: 33 :: 35 :: 36 :: 37 :: 38 :: 39 :: 40 :: 43 :: 50 :: 52 :: 53 :: 55 :: 56 :: 57 :: 58 :: 59 :: 62 :: 69 :: 70 :: 72 :: 73 :: 75 :: 76 :: 77 :: 78 :: 79 :: 82 :: 89 :: 90 :: 92 :: 93 :: 95 :: 96 :: 97 :: 98 :: 99 :: 102 :: 109 :: 111 :: 112 :: 114 :: 115 :: 116 :: 117 :: 118 :: 121 :: 128 :: 130 :: 131 :: 133 :: 134 :: 135 :: 136 :: 137 :: 140 :: 147 :: 149 :: 150 :: 152 :: 153 :: 154 :: 155 :: 156 :: 159 :: 166 :: 167 :: 168 :: 171 :: 178 :: 180 :: 181 :: 183 :: 184 :: 185 :: 186 :: 187 :: 190 :: 192 :: 193 :: 195 :: 196 :: 197 :: 199 :: 200 :: 202 :: 203 :: 204 :: 206 :: 207 :: 209 :: 210 :: 211 :: 213 :: 214 :: 216 :: 217 :: 218 :: 220 :: 221 :: 223 :: 224 :: 225 :: 228 :: 229 :: []) (fun _ => by kernel_rfl))) (Ya := PySem.W.Hook.val (PySem.W.kHook hd.heap_39 (2 :: 3 :: 15 :: 22 :: 23 :: 25 :: 26 :: 28 :: 29 :: 30 :: 32 :: 33 :: 35 :: 36 :: 37 :: 38 :: 39 :: 40 :: 43 :: 50 :: 52 :: 53 :: 55 :: 56 :: 57 :: 58 :: 59 :: 62 :: 69 :: 70 :: 72 :: 73 :: 75 :: 76 :: 77 :: 78 :: 79 :: 82 :: 89 :: 90 :: 92 :: 93 :: 95 :: 96 :: 97 :: 98 :: 99 :: 102 :: 109 :: 111 :: 112 :: 114 :: 115 :: 116 :: 117 :: 118 :: 121 :: 128 :: 130 :: 131 :: 133 :: 134 :: 135 :: 136 :: 137 :: 140 :: 147 :: 149 :: 150 :: 152 :: 153 :: 154 :: 155 :: 156 :: 159 :: 166 :: 167 :: 168 :: 171 :: 178 :: 180 :: 181 :: 183 :: 184 :: 185 :: 186 :: 187 :: 190 :: 192 :: 193 :: 195 :: 196 :: 197 :: 199 :: 200 :: 202 :: 203 :: 204 :: 206 :: 207 :: 209 :: 210 :: 211 :: 213 :: 214 :: 216 :: 217 :: 218 :: 220 :: 221 :: 223 :: 224 :: 225 :: 228 :: 229 :: []) (fun _ => by kernel_rfl))) (YP := PySem.W.Hook.says (PySem.W.kHook hd.heap_39 (2 :: 3 :: 15 :: 22 :: 23 :: 25 :: 26 :: 28 :: 29 :: 30 :: 32 :: 33 :: 35 :: 36 :: 37 :: 38 :: 39 :: 40 :: 43 :: 50 :: 52 :: 53 :: 55 :: 56 :: 57 :: 58 :: 59 :: 62 :: 69 :: 70 :: 72 :: 73 :: 75 :: 76 :: 77 :: 78 :: 79 :: 82 :: 89 :: 90 :: 92 :: 93 :: 95 :: 96 :: 97 :: 98 :: 99 :: 102 :: 109 :: 111 :: 112 :: 114 :: 115 :: 116 :: 117 :: 118 :: 121 :: 128 :: 130 :: 131 :: 133 :: 134 :: 135 :: 136 :: 137 :: 140 :: 147 :: 149 :: 150 :: 152 :: 153 :: 154 :: 155 :: 156 :: 159 :: 166 :: 167 :: 168 :: 171 :: 178 :: 180 :: 181 :: 183 :: 184 :: 185 :: 186 :: 187 :: 190 :: 192 :: 193 :: 195 :: 196 :: 197 :: 199 :: 200 :: 202 :: 203 :: 204 :: 206 :: 207 :: 209 :: 210 :: 211 :: 213 :: 214 :: 216 :: 217 :: 218 :: 220 :: 221 :: 223 :: 224 :: 225 :: 228 :: 229 :: []) (fun _ => by kernel_rfl))) (N := 5104) hd.left (PySem.W.Hook.of (PySem.W.kHook hd.heap_39 (2 :: 3 :: 15 :: 22 :: 23 :: 25 :: 26 :: 28 :: 29 :: 30 :: 32 :: 33 :: 35 :: 36 :: 37 :: 38 :: 39 :: 40 :: 43 :: 50 :: 52 :: 53 :: 55 :: 56 :: 57 :: 58 :: 59 :: 62 :: 69 :: 70 :: 72 :: 73 :: 75 :: 76 :: 77 :: 78 :: 79 :: 82 :: 89 :: 90 :: 92 :: 93 :: 95 :: 96 :: 97 :: 98 :: 99 :: 102 :: 109 :: 111 :: 112 :: 114 :: 115 :: 116 :: 117 :: 118 :: 121 :: 128 :: 130 :: 131 :: 133 :: 134 :: 135 :: 136 :: 137 :: 140 :: 147 :: 149 :: 150 :: 152 :: 153 :: 154 :: 155 :: 156 :: 159 :: 166 :: 167 :: 168 :: 171 :: 178 :: 180 :: 181 :: 183 :: 184 :: 185 :: 186 :: 187 :: 190 :: 192 :: 193 :: 195 :: 196 :: 197 :: 199 :: 200 :: 202 :: 203 :: 204 :: 206 :: 207 :: 209 :: 210 :: 211 :: 213 :: 214 :: 216 :: 217 :: 218 :: 220 :: 221 :: 223 :: 224 :: 225 :: 228 :: 229 :: []) (fun _ => by kernel_rfl))) (PySem.W.Hook.keeps (PySem.W.kHook hd.heap_39 (2 :: 3 :: 15 :: 22 :: 23 :: 25 :: 26 :: 28 :: 29 :: 30 :: 32 :: 33 :: 35 :: 36 :: 37 :: 38 :: 39 :: 40 :: 43 :: 50 :: 52 :: 53 :: 55 :: 56 :: 57 :: 58 :: 59 :: 62 :: 69 :: 70 :: 72 :: 73 :: 75 :: 76 :: 77 :: 78 :: 79 :: 82 :: 89 :: 90 :: 92 :: 93 :: 95 :: 96 :: 97 :: 98 :: 99 :: 102 :: 109 :: 111 :: 112 :: 114 :: 115 :: 116 :: 117 :: 118 :: 121 :: 128 :: 130 :: 131 :: 133 :: 134 :: 135 :: 136 :: 137 :: 140 :: 147 :: 149 :: 150 :: 152 :: 153 :: 154 :: 155 :: 156 :: 159 :: 166 :: 167 :: 168 :: 171 :: 178 :: 180 :: 181 :: 183 :: 184 :: 185 :: 186 :: 187 :: 190 :: 192 :: 193 :: 195 :: 196 :: 197 :: 199 :: 200 :: 202 :: 203 :: 204 :: 206 :: 207 :: 209 :: 210 :: 211 :: 213 :: 214 :: 216 :: 217 :: 218 :: 220 :: 221 :: 223 :: 224 :: 225 :: 228 :: 229 :: []) (fun _ => by kernel_rfl)))
    (fun s e => PySem.W.xl_of s (Bool.and_eq_true_iff.mp e).1) PySem.W.XL.keeps h1 h2 h3 (fun s e => PySem.W.recFacts_of (Bool.and_eq_true_iff.mp e).2) (by rfl) said (by decide +kernel) ⟨rfl, rfl, rfl, rfl, rfl, by decide +kernel⟩ ⟨[PySem.W.WData.list []], by decide +kernel, by decide +kernel⟩ walk
theorem hd.ofLaw (walk : (fun (p : PySem.Arguments) (b : List PySem.Stmt) (s : PySem.Scope) (c : PySem.Pos) (_ : fP (sAt 17) = p) (_ : fB (sAt 17) = b) (_ : fS (sAt 17) = s) (_ : fQ (sAt 17) = c) =>
    PySem.W.WalkO hd.view_39 [(PySem.Str.ofString "Error"), (PySem.Str.ofString "DuplicateSectionError"), (PySem.Str.ofString "DuplicateOptionError")] (PySem.W.XL hd.view_39 ([] : List (Prod PySem.Str PySem.W.WData))) (PySem.W.Hook.says (PySem.W.kHook hd.heap_39 (2 :: 3 :: 15 :: 22 :: 23 :: 25 :: 26 :: 28 :: 29 :: 30 :: 32 :: 33 :: 35 :: 36 :: 37 :: 38 :: 39 :: 40 :: 43 :: 50 :: 52 :: 53 :: 55 :: 56 :: 57 :: 58 :: 59 :: 62 :: 69 :: 70 :: 72 :: 73 :: 75 :: 76 :: 77 :: 78 :: 79 :: 82 :: 89 :: 90 :: 92 :: 93 :: 95 :: 96 :: 97 :: 98 :: 99 :: 102 :: 109 :: 111 :: 112 :: 114 :: 115 :: 116 :: 117 :: 118 :: 121 :: 128 :: 130 :: 131 :: 133 :: 134 :: 135 :: 136 :: 137 :: 140 :: 147 :: 149 :: 150 :: 152 :: 153 :: 154 :: 155 :: 156 :: 159 :: 166 :: 167 :: 168 :: 171 :: 178 :: 180 :: 181 :: 183 :: 184 :: 185 :: 186 :: 187 :: 190 :: 192 :: 193 :: 195 :: 196 :: 197 :: 199 :: 200 :: 202 :: 203 :: 204 :: 206 :: 207 :: 209 :: 210 :: 211 :: 213 :: 214 :: 216 :: 217 :: 218 :: 220 :: 221 :: 223 :: 224 :: 225 :: 228 :: 229 :: []) (fun _ => by kernel_rfl))) PySem.Challenge.rw_dv0002_02.row.toRowW (PySem.DefRec.mk (PySem.Str.ofString "law") p b s c) [] fun f vs => PySem.call f vs) _ _ _ _ (by conv => lhs; whnf) (by conv => lhs; whnf) (by conv => lhs; whnf) (by conv => lhs; whnf)) : PySem.Challenge.rw_dv0002_02.Holds :=
  hd (d := PySem.DefRec.mk (PySem.Str.ofString "law") _ _ _ _) (kwd := []) (by kernel_rfl) (by kernel_rfl) (by kernel_rfl) walk
theorem hd.fill : PySem.Challenge.rw_dv0002_02 = PySem.Challenge.rw_dv0002_02 ∧ hd.heap_39 = hd.heap_39 := by
  k_fill
  exact ⟨rfl, rfl⟩
end Mine

end
section -- L2base
set_option maxRecDepth 100000
set_option maxHeartbeats 4000000
set_option linter.unusedVariables false
namespace Mine
open PySem PySem.W PyProof.Rows

/-- the class of each kind -/
def clsOf : Nat → Addr
  | 0 => 39 | 1 => 59 | 2 => 79 | 3 => 99 | 4 => 118 | 5 => 137 | 6 => 168 | 7 => 156 | _ => 187
/-- the words of each kind -/
def msgOf : Nat → Dat
  | 0 => .int 0
  | 1 => .str "No section: 1"
  | 2 => .str "While reading from 'f' [line 20]: section 2 already exists"
  | 3 => .str "While reading from 'f': option 'o' in section 3 already exists"
  | 4 => .str "No option 4 in section: 's'"
  | 5 => .str "m"
  | 6 => .str "n"
  | 7 => .str "Bad value substitution: option 7 in section 's' contains an interpolation key 'r' which is not a valid option name. Raw value: 'v'"
  | _ => .str "Recursion limit exceeded in value substitution: option 8 in section 's' contains an interpolation key which cannot be substituted in 10 steps. Raw value: 'w'"
/-- what stands behind the kind in its args -/
def behindOf : Nat → List Dat
  | 0 => []
  | 1 => []
  | 2 => [.str "f", .int 20]
  | 3 => [.str "o", .str "f", .none]
  | 4 => [.str "s"]
  | 5 => [.str "s", .str "m"]
  | 6 => [.str "s", .str "n"]
  | 7 => [.str "s", .str "v", .str "r"]
  | _ => [.str "s", .str "w"]

theorem behind_len (k : Nat) : (behindOf k).length ≤ 3 := by unfold behindOf; split <;> decide
structure ErrAt (k : Nat) (h : Heap) (e d t : Addr) (tb ctx : Value) : Prop where
  ex : h.get? e = some (excObj (clsOf k) (some d) (.ref t) tb ctx)
  di : ∃ es n, h.get? d = some (dictOf es n) ∧ ∃ mv, getL "message" es = some (some mv) ∧ DatIn [] mv (msgOf k)
  tu : ∃ tk vs, h.get? t = some (tupObj (.int k tk :: vs)) ∧ DatAll [] vs (behindOf k)

theorem datStr {x y : PySem.Str} {t : Tok} (e : x = y) : DatIn [] (.str x t) (Dat.str y) := e ▸ DatIn.str x t
theorem errAt_of {k : Nat} {g h : Heap} {L e d t C : Addr} {tk : Tok} {tb ctx mv : Value} {es : List DictEntry} {n : Nat} {vs : List Value} {news : List (Addr × Obj)} (N : News g L h news) (h1 : (e, excObj C (some d) (.ref t) tb ctx) ∈ news) (h2 : (d, dictOf es n) ∈ news) (h3 : (t, tupObj (.int k tk :: vs)) ∈ news)
    (hC : clsOf k = C) (hm : getL "message" es = some (some mv)) (hd : DatIn [] mv (msgOf k)) (ha : DatAll [] vs (behindOf k)) : ErrAt k h e d t tb ctx ∧ g.get? e = none ∧ g.get? d = none ∧ g.get? t = none := by
  subst hC
  exact ⟨⟨(N _ h1).1, ⟨es, n, (N _ h2).1, mv, hm, hd⟩, ⟨tk, vs, (N _ h3).1, ha⟩⟩, (N _ h1).2.2, (N _ h2).2.2, (N _ h3).2.2⟩
end Mine

end
section -- L2ini
open PySem PySem.W PyProof.Rows Mine
set_option maxRecDepth 100000
set_option maxHeartbeats 1000000
set_option linter.unusedVariables false
namespace Mine
theorem cc_all (P : Params) : ∀ k, k < 9 → CC (hd.heap_39 P) (clsOf k)
  | 0, _ => ⟨by kernel_rfl, by kernel_rfl, by kernel_rfl, by kernel_rfl, by kernel_rfl, by kernel_rfl, by kernel_rfl, by kernel_rfl, by kernel_rfl, by kernel_rfl, by kernel_rfl⟩
  | 1, _ => ⟨by kernel_rfl, by kernel_rfl, by kernel_rfl, by kernel_rfl, by kernel_rfl, by kernel_rfl, by kernel_rfl, by kernel_rfl, by kernel_rfl, by kernel_rfl, by kernel_rfl⟩
  | 2, _ => ⟨by kernel_rfl, by kernel_rfl, by kernel_rfl, by kernel_rfl, by kernel_rfl, by kernel_rfl, by kernel_rfl, by kernel_rfl, by kernel_rfl, by kernel_rfl, by kernel_rfl⟩
  | 3, _ => ⟨by kernel_rfl, by kernel_rfl, by kernel_rfl, by kernel_rfl, by kernel_rfl, by kernel_rfl, by kernel_rfl, by kernel_rfl, by kernel_rfl, by kernel_rfl, by kernel_rfl⟩
  | 4, _ => ⟨by kernel_rfl, by kernel_rfl, by kernel_rfl, by kernel_rfl, by kernel_rfl, by kernel_rfl, by kernel_rfl, by kernel_rfl, by kernel_rfl, by kernel_rfl, by kernel_rfl⟩
  | 5, _ => ⟨by kernel_rfl, by kernel_rfl, by kernel_rfl, by kernel_rfl, by kernel_rfl, by kernel_rfl, by kernel_rfl, by kernel_rfl, by kernel_rfl, by kernel_rfl, by kernel_rfl⟩
  | 6, _ => ⟨by kernel_rfl, by kernel_rfl, by kernel_rfl, by kernel_rfl, by kernel_rfl, by kernel_rfl, by kernel_rfl, by kernel_rfl, by kernel_rfl, by kernel_rfl, by kernel_rfl⟩
  | 7, _ => ⟨by kernel_rfl, by kernel_rfl, by kernel_rfl, by kernel_rfl, by kernel_rfl, by kernel_rfl, by kernel_rfl, by kernel_rfl, by kernel_rfl, by kernel_rfl, by kernel_rfl⟩
  | 8, _ => ⟨by kernel_rfl, by kernel_rfl, by kernel_rfl, by kernel_rfl, by kernel_rfl, by kernel_rfl, by kernel_rfl, by kernel_rfl, by kernel_rfl, by kernel_rfl, by kernel_rfl⟩
  | n + 9, h => absurd h (by omega)
/-- an __init__ has been through: x is as it is to be -/
structure Made (Ln : Nat) (S h : Heap) (C x d t : Addr) (es : List DictEntry) (n : Nat) (tv : List Value) (mv : Dat) : Prop where
  keep : ∀ b o, S.get? b = some o → b ≠ x → h.get? b = some o
  ex : h.get? x = some (excObj C (some d) (.ref t) .none .none)
  di : h.get? d = some (dictOf es n)
  tu : h.get? t = some (tupObj tv)
  nd : S.get? d = none
  nt : S.get? t = none
  dt : d ≠ t
  nr : NoRef es
  len : es.length ≤ Ln
  ms : ∃ v, fnd "message" es = some v ∧ DatIn [] v mv
/-- what an __init__ does -/
def InitP (prog : Program) (w : World) (D Ln : Nat) (f : Addr) (args : List Value) (kw : List (Str × Value)) (mv : Dat) (tv : List Value) : Prop :=
  ∀ {base : Heap} {l : List Env} {mg mb : Str → Option Value} {loose : List Str} {mean : ExcName → Option Value} {s : Shared} {R : Result → Shared → Prop} {A : Around} {x C t0 : Addr},
    CC (hd.heap_39 w.params) C → base.StaysIn s.heap → s.heap.FunFrames base l → (hd.heap_39 w.params).In base → Top hd.view_39 loose mean mg mb base → A.frames = some l → A.depth ≤ D →
    s.heap.get? x = some (excObj C none (.ref t0) .none .none) → base.get? x = none → x ∉ l.filterMap (·.frame) →
    (∀ h' d t es n tk', Made Ln s.heap h' C x d t es n tv mv → R (.ok (.ret .none)) { s with heap := h', toks := tk' }) →
    codeAny (model prog w) A (.call (.ref f) ⟨.ref x :: args, kw⟩) R s
theorem init_err {prog : Program} {w : World} {v : Value} {mv : Dat} (hv : DatIn [] v mv) : InitP prog w 950 1 29 [v] [] mv [v] := by
  intro base l mg mb loose mean s R A x C t0 cc hst hff X T hA hdp hx hbx hxf h
  w_on
  refine' enterL (binds := [("self", .ref x), ("msg", v)]) (news := [(x, excObj C none (.ref t0) .none .none)]) hA hst hff X T ?kn ?k6 ?k7 ?k8 ?k9 ?kB ?_ ?c2 ?c3 ?c4 ?c5
  (case kn => intro b hb; simp only [List.mem_cons, List.not_mem_nil, or_false] at hb; subst hb; exact ⟨hx, hbx, hxf⟩)
  (case k6 => k_dflt k_is); (case k7 => k_dflt k_is); (case k8 => exact Nat.lt_of_le_of_lt hdp (by decide)); (case k9 => exact binds_K (X.keeps hst) rfl (by k_is) rfl rfl rfl); (case c5 => decide); (case kB => exact locs rfl); (case c2 => exact rfl); (case c3 => exact rfl); (case c4 => exact rfl)
  intro g' L' h₁ F' N' B' X' T' hL' hin hout hlt
  subst hL'
  k_fold
  repeat' ((fail_if_success (with_reducible show wpAny _ _ (setAttr _ _ _) _ _ _)); first | walk1 | (dsimp only; walk1) | fail "no step")
  refine set_excNew (by k_asm) (by k_asm) (by k_asm) cc.sa (.head (fun p hp => absurd hp List.not_mem_nil)) cc.ov cc.ms cc.hd ?_
  intro h2 d F2 N2 l2
  repeat' ((fail_if_success (with_reducible show wpAny _ _ (call (Value.builtin _) _) _ _ _)); first | (with_reducible refine execs_one ?_; (try dsimp only)) | ((with_reducible show wpAny _ _ (getMethod (Value.type _) _ _) _ _ _); refine method_type (by k_asm) (by k_asm) (by exact Mine.meta_Exception) (by decide +kernel) (by k_dflt k_is) (by k_handed) ?_) | walk1 | (dsimp only; walk1) | fail "no step")
  refine call_einit F2 (by k_asm) N2 (.tail (Nat.ne_of_gt (l2 _ (.head _))) (.head (fun p hp => absurd hp List.not_mem_nil))) cc.ex ?_
  intro h3 t F3 N3 l3
  k_unfold
  have lx : x < d := l2 _ (.head _)
  have ltd : d < t := l3 _ (.head _)
  have fresh : ∀ b, g'.get? b = none → b ≠ x → s.heap.get? b = none := fun b hb hn => by
    cases z : s.heap.get? b with
    | none => rfl
    | some o => rw [hin b o z (by simpa using hn)] at hb; cases hb
  have nd := N3 _ (.tail _ (.head _))
  have nt := N3 _ (.head _)
  refine h h3 d t _ 1 _ ⟨fun b o hb hn => F3.keep b o (hin b o hb (by simpa using hn)), (N3 _ (.tail _ (.tail _ (.head _)))).1, nd.1, nt.1, fresh _ nd.2.2 (Nat.ne_of_gt lx), fresh _ nt.2.2 (Nat.ne_of_gt (Nat.lt_trans lx ltd)), Nat.ne_of_lt ltd, rfl, Nat.le_refl _, v, ?_, hv⟩
  unfold fnd; rw [List.find?_cons, isStr_self]; rfl
theorem init_errK {prog : Program} {w : World} {v : Value} {mv : Dat} (hv : DatIn [] v mv) : InitP prog w 950 1 29 [] [("msg", v)] mv [v] := by
  intro base l mg mb loose mean s R A x C t0 cc hst hff X T hA hdp hx hbx hxf h
  w_on
  refine' enterL (binds := [("self", .ref x), ("msg", v)]) (news := [(x, excObj C none (.ref t0) .none .none)]) hA hst hff X T ?kn ?k6 ?k7 ?k8 ?k9 ?kB ?_ ?c2 ?c3 ?c4 ?c5
  (case kn => intro b hb; simp only [List.mem_cons, List.not_mem_nil, or_false] at hb; subst hb; exact ⟨hx, hbx, hxf⟩)
  (case k6 => k_dflt k_is); (case k7 => k_dflt k_is); (case k8 => exact Nat.lt_of_le_of_lt hdp (by decide)); (case k9 => exact binds_K (X.keeps hst) rfl (by k_is) rfl rfl rfl); (case c5 => decide); (case kB => exact locs rfl); (case c2 => exact rfl); (case c3 => exact rfl); (case c4 => exact rfl)
  intro g' L' h₁ F' N' B' X' T' hL' hin hout hlt
  subst hL'
  k_fold
  repeat' ((fail_if_success (with_reducible show wpAny _ _ (setAttr _ _ _) _ _ _)); first | walk1 | (dsimp only; walk1) | fail "no step")
  refine set_excNew (by k_asm) (by k_asm) (by k_asm) cc.sa (.head (fun p hp => absurd hp List.not_mem_nil)) cc.ov cc.ms cc.hd ?_
  intro h2 d F2 N2 l2
  repeat' ((fail_if_success (with_reducible show wpAny _ _ (call (Value.builtin _) _) _ _ _)); first | (with_reducible refine execs_one ?_; (try dsimp only)) | ((with_reducible show wpAny _ _ (getMethod (Value.type _) _ _) _ _ _); refine method_type (by k_asm) (by k_asm) (by exact Mine.meta_Exception) (by decide +kernel) (by k_dflt k_is) (by k_handed) ?_) | walk1 | (dsimp only; walk1) | fail "no step")
  refine call_einit F2 (by k_asm) N2 (.tail (Nat.ne_of_gt (l2 _ (.head _))) (.head (fun p hp => absurd hp List.not_mem_nil))) cc.ex ?_
  intro h3 t F3 N3 l3
  k_unfold
  have lx : x < d := l2 _ (.head _)
  have ltd : d < t := l3 _ (.head _)
  have fresh : ∀ b, g'.get? b = none → b ≠ x → s.heap.get? b = none := fun b hb hn => by
    cases z : s.heap.get? b with
    | none => rfl
    | some o => rw [hin b o z (by simpa using hn)] at hb; cases hb
  have nd := N3 _ (.tail _ (.head _))
  have nt := N3 _ (.head _)
  refine h h3 d t _ 1 _ ⟨fun b o hb hn => F3.keep b o (hin b o hb (by simpa using hn)), (N3 _ (.tail _ (.tail _ (.head _)))).1, nd.1, nt.1, fresh _ nd.2.2 (Nat.ne_of_gt lx), fresh _ nt.2.2 (Nat.ne_of_gt (Nat.lt_trans lx ltd)), Nat.ne_of_lt ltd, rfl, Nat.le_refl _, v, ?_, hv⟩
  unfold fnd; rw [List.find?_cons, isStr_self]; rfl
section
variable {prog : Program} {w : World} {A A₀ : Around} {E : Value → Shared → Prop} {s : Shared} {base h₀ : Heap} {outer : List Env} {env : Env} {loose : List Str} {mean : ExcName → Option Value} {mg mb : Str → Option Value} {L x C t0 f : Addr} {m : Str → Option Value} {tl news : List (Addr × Obj)} {Q : Value → Shared → Prop} {args tv : List Value} {mv : Dat}
/-- an __init__ called in another one -/
theorem init_K {D Ln : Nat} (IP : InitP prog w D Ln f args [] mv tv) (B : Below A₀ base outer h₀) (F : Fr h₀ L s.heap m) (N : News h₀ L s.heap ((x, excObj C none (.ref t0) .none .none) :: tl)) (off : ∀ p ∈ tl, p.1 ≠ x) (hA : A.frames = some (env :: outer)) (hf : env.frame = some L) (hke : env.scope.kind = .function)
    (X : (hd.heap_39 w.params).In base) (T : Top hd.view_39 loose mean mg mb base) (cc : CC (hd.heap_39 w.params) C) (hdp : A.depth ≤ D)
    (h : ∀ h' d t es n tk', Fr h₀ L h' m → News h₀ L h' ((x, excObj C (some d) (.ref t) .none .none) :: (d, dictOf es n) :: (t, tupObj tv) :: tl) → NoRef es → es.length ≤ Ln → (∃ v, fnd "message" es = some v ∧ DatIn [] v mv) → x ≠ d → (∀ p ∈ (t, tupObj tv) :: tl, p.1 ≠ d) → (∀ p ∈ (t, tupObj tv) :: tl, p.1 ≠ x) → Q .none { s with heap := h', toks := tk' }) :
    wpAny (model prog w) A (call (.ref f) (.ref x :: args)) Q E s := by
  have hbL : base.get? L = none := by
    cases q : base.get? L with
    | none => rfl
    | some o => exact absurd (Nat.lt_of_lt_of_le (Heap.lt_size (B.stays L o q)) F.above) (Nat.lt_irrefl _)
  have hff : s.heap.FunFrames base (env :: outer) := .cons (by rw [hke]; decide) hf F.ns hbL (B.frames.of_keeps fun b o e _ => ⟨o, F.keep b o e, rfl⟩)
  have gx := N _ (.head _)
  have hbx : base.get? x = none := by
    cases z : base.get? x with
    | none => rfl
    | some o => have := B.stays _ _ z; have g2 := gx.2.2; simp only at g2; rw [g2] at this; cases this
  have hxf : x ∉ (env :: outer).filterMap (·.frame) := fun z => by
    obtain ⟨_, o, ho, hnf⟩ := hff.mem z
    rw [gx.1] at ho; injection ho with ho; subst ho; exact hnf _ rfl
  refine wpAny_call (IP cc (fun b o e => F.keep b o (B.stays b o e)) hff X T hA hdp gx.1 hbx hxf fun h' d t es n tk' M => ?_)
  have xd : x ≠ d := fun z => by have := M.nd; rw [← z, gx.1] at this; cases this
  have xt : x ≠ t := fun z => by have := M.nt; rw [← z, gx.1] at this; cases this
  have hLx : L ≠ x := Ne.symm gx.2.1
  have fresh : ∀ b, s.heap.get? b = none → b ≠ L ∧ h₀.get? b = none := fun b hb => by
    refine ⟨fun z => ?_, ?_⟩
    · obtain ⟨o, _, _, ho, _⟩ := F.ns
      rw [z, ho] at hb; cases hb
    · cases z : h₀.get? b with
      | none => rfl
      | some o => rw [F.keep _ _ z] at hb; cases hb
  have old : ∀ p ∈ tl, p.1 ≠ d ∧ p.1 ≠ t := fun p hp => by
    have g := (N p (.tail _ hp)).1
    exact ⟨fun z => (by rw [z, M.nd] at g; cases g), fun z => (by rw [z, M.nt] at g; cases g)⟩
  have F' : Fr h₀ L h' m := ⟨by
    obtain ⟨o, es', ep, ho, r⟩ := F.ns
    exact ⟨o, es', ep, M.keep _ _ ho hLx, r⟩, fun b o q => M.keep b o (F.keep b o q) (fun z => by have g2 := gx.2.2; simp only at g2; rw [z, g2] at q; cases q), F.above⟩
  refine h h' d t es n tk' F' (fun p hp => ?_) M.nr M.len M.ms xd (fun p hp => ?_) (fun p hp => ?_)
  · rcases List.mem_cons.mp hp with rfl | hp
    · exact ⟨M.ex, gx.2⟩
    rcases List.mem_cons.mp hp with rfl | hp
    · exact ⟨M.di, fresh _ M.nd⟩
    rcases List.mem_cons.mp hp with rfl | hp
    · exact ⟨M.tu, fresh _ M.nt⟩
    · exact ⟨M.keep _ _ (N p (.tail _ hp)).1 (off p hp), (N p (.tail _ hp)).2⟩
  · rcases List.mem_cons.mp hp with rfl | hp
    · exact Ne.symm M.dt
    · exact (old p hp).1
  · rcases List.mem_cons.mp hp with rfl | hp
    · exact Ne.symm xt
    · exact off p hp
/-- an exception of ours is made -/
theorem make_K {k : Nat} {D Ln : Nat} {kw : List (Str × Value)} (IP : InitP prog w D Ln f args kw mv tv) (hk : k < 9) (hC : clsOf k = C) (B : Below A₀ base outer h₀) (F : Fr h₀ L s.heap m) (N : News h₀ L s.heap news) (hA : A.frames = some (env :: outer)) (hf : env.frame = some L) (hke : env.scope.kind = .function)
    (X : (hd.heap_39 w.params).In base) (T : Top hd.view_39 loose mean mg mb base) (hi : findIn (hd.heap_39 w.params) (.ref C) "__init__" = some (some (.ref f))) (hfn : isFn (hd.heap_39 w.params) (.ref f) = true) (hz : args.length ≤ 10) (hdp : A.depth + 1 ≤ D)
    (h : ∀ h' e d t es n tk', (∀ b o, s.heap.get? b = some o → h'.get? b = some o) → s.heap.get? e = none → s.heap.get? d = none → s.heap.get? t = none → h'.get? e = some (excObj C (some d) (.ref t) .none .none) → h'.get? d = some (dictOf es n) → h'.get? t = some (tupObj tv) → NoRef es → (∃ v, fnd "message" es = some v ∧ DatIn [] v mv) → Q (.ref e) { s with heap := h', toks := tk' }) :
    wpAny (model prog w) A (call (.ref C) args kw) Q E s := by
  subst hC
  have cc := cc_all w.params k hk
  have hbL : base.get? L = none := by
    cases q : base.get? L with
    | none => rfl
    | some o => exact absurd (Nat.lt_of_lt_of_le (Heap.lt_size (B.stays L o q)) F.above) (Nat.lt_irrefl _)
  have hff : s.heap.FunFrames base (env :: outer) := .cons (by rw [hke]; decide) hf F.ns hbL (B.frames.of_keeps fun b o e _ => ⟨o, F.keep b o e, rfl⟩)
  have hst : base.StaysIn s.heap := fun b o e => F.keep b o (B.stays b o e)
  have XS := X.keeps hst
  obtain ⟨hh, g, dr, tk, os⟩ := s
  have kp : ∀ b o, hh.get? b = some o → ((hh.push (tupObj args)).push (excObj (clsOf k) none (.ref hh.objs.size) .none .none)).get? b = some o := fun b o e => Heap.get?_push_of_some _ (Heap.get?_push_of_some _ e)
  have fx : hh.get? (hh.objs.size + 1) = none := Heap.get?_none_of_le (Nat.le_succ _)
  have gx : ((hh.push (tupObj args)).push (excObj (clsOf k) none (.ref hh.objs.size) .none .none)).get? (hh.objs.size + 1) = some (excObj (clsOf k) none (.ref hh.objs.size) .none .none) := by
    have := Heap.get?_push_size (hh.push (tupObj args)) (o := excObj (clsOf k) none (.ref hh.objs.size) .none .none) rfl
    rwa [Heap.size_push] at this
  have hff2 := hff.of_keeps (h' := (hh.push (tupObj args)).push (excObj (clsOf k) none (.ref hh.objs.size) .none .none)) fun b o e _ => ⟨o, kp b o e, rfl⟩
  refine wpAny_call (exc_make (ecls_of XS cc.ex) (looks_findIn XS hi) (fun self => bind_fn XS self (beq_iff_eq.mp hfn)) (Nat.le_trans hz (by rw [sizeLine_eq]; decide)) ?_)
  refine IP (s := ⟨_, g, dr, tk, os⟩) (A := A.under _) cc (fun b o e => kp b o (hst b o e)) hff2 X T hA ?_ gx ?_ ?_ fun h' d t es n tk' M => ⟨rfl, ?_⟩
  · rw [depth_under_kw]; exact hdp
  · cases z : base.get? (hh.objs.size + 1) with
    | none => rfl
    | some o => have := hst _ _ z; rw [fx] at this; cases this
  · intro z
    obtain ⟨_, o, ho, hnf⟩ := hff2.mem z
    rw [gx] at ho; injection ho with ho; subst ho; exact hnf _ rfl
  have ne : ∀ b o, hh.get? b = some o → b ≠ hh.objs.size + 1 := fun b o e z => by rw [z, fx] at e; cases e
  have back : ∀ b, ((hh.push (tupObj args)).push (excObj (clsOf k) none (.ref hh.objs.size) .none .none)).get? b = none → hh.get? b = none := fun b hb => by
    cases z : hh.get? b with
    | none => rfl
    | some o => rw [kp b o z] at hb; cases hb
  exact h h' _ d t es n tk' (fun b o e => M.keep b o (kp b o e) (ne b o e)) fx (back _ M.nd) (back _ M.nt) M.ex M.di M.tu M.nr M.ms
end
theorem made_end {s : Shared} {g h : Heap} {L x C d t : Addr} {m : Str → Option Value} {news : List (Addr × Obj)} {es : List DictEntry} {n : Nat} {tv : List Value} {mv : Dat} {o0 : Obj} {v : Value}
    (hin : ∀ b o, s.heap.get? b = some o → b ∉ [(x, o0)].map (·.1) → g.get? b = some o) (F : Fr g L h m) (N : News g L h news) (ht : (t, tupObj tv) ∈ news) (hx : (x, excObj C (some d) (.ref t) .none .none) ∈ news) (hd : (d, dictOf es n) ∈ news)
    {Ln : Nat} (nr : NoRef es) (len : es.length ≤ Ln) (ms : fnd "message" es = some v) (hv : DatIn [] v mv) : Made Ln s.heap h C x d t es n tv mv := by
  have gx := N _ hx
  have gd := N _ hd
  have gt := N _ ht
  have xd : d ≠ x := fun z => by have h1 := gd.1; simp only at h1; rw [z, gx.1] at h1; cases h1
  have xt : t ≠ x := fun z => by have h1 := gt.1; simp only at h1; rw [z, gx.1] at h1; cases h1
  have dt : d ≠ t := fun z => by have h1 := gd.1; simp only at h1; rw [z, gt.1] at h1; injection h1 with h1; exact absurd (congrArg Obj.cls h1) (by simp)
  have ni : ∀ b, b ≠ x → b ∉ [(x, o0)].map (·.1) := fun b hb z => hb (List.mem_singleton.mp z)
  have fresh : ∀ b, g.get? b = none → b ≠ x → s.heap.get? b = none := fun b hb hn => by
    cases z : s.heap.get? b with
    | none => rfl
    | some o => rw [hin b o z (ni b hn)] at hb; cases hb
  exact ⟨fun b o hb hn => F.keep b o (hin b o hb (ni b hn)), gx.1, gd.1, gt.1, fresh _ gd.2.2 xd, fresh _ gt.2.2 xt, dt, nr, len, v, ms, hv⟩
theorem news_one {g h : Heap} {L x : Addr} {o : Obj} {news : List (Addr × Obj)} (N : News g L h news) (hm : (x, o) ∈ news) : News g L h [(x, o)] := fun p hp => (List.mem_singleton.mp hp) ▸ N _ hm
end Mine

end
section -- L2ins
open PySem PySem.W PyProof.Rows Mine
set_option maxRecDepth 100000
set_option maxHeartbeats 1000000
set_option linter.unusedVariables false
namespace Mine
theorem init_ns {prog : Program} {w : World} {tk : Tok} : InitP prog w 940 2 56 [.int 1 tk] [] (msgOf 1) [.int 1 tk] := by
  intro base l mg mb loose mean s R A x C t0 cc hst hff X T hA hdp hx hbx hxf h
  w_on
  refine' enterL (binds := [("self", .ref x), ("section", .int 1 tk)]) (news := [(x, excObj C none (.ref t0) .none .none)]) hA hst hff X T ?kn ?k6 ?k7 ?k8 ?k9 ?kB ?_ ?c2 ?c3 ?c4 ?c5
  (case kn => intro b hb; rw [List.mem_singleton.mp hb]; exact ⟨hx, hbx, hxf⟩)
  (case k6 => k_dflt k_is); (case k7 => k_dflt k_is); (case k8 => exact Nat.lt_of_le_of_lt hdp (by decide)); (case k9 => exact BindsTo.of_eq rfl); (case c5 => decide); (case kB => exact locs rfl); (case c2 => exact rfl); (case c3 => exact rfl); (case c4 => exact rfl)
  intro g' L' h₁ F' N' B' X' T' hL' hin hout hlt
  subst hL'
  clear hout hlt hx hbx hxf hst hff
  k_fold
  repeat' ((fail_if_success (with_reducible show wpAny _ _ (call (Value.ref _) _) _ _ _)); first | (with_reducible refine execs_one ?_; (try dsimp only)) | walk1 | (dsimp only; walk1) | (dsimp only [List.nil_append, List.cons_append]; walk1) | fail "no step")
  refine init_K (init_err (mv := msgOf 1) (datStr (by decide +kernel))) B' (by k_asm) (news_one (by k_asm) (by k_mem)) (fun p hp => absurd hp List.not_mem_nil) (Around.frames_deeper hA) rfl rfl X T cc (by rw [depth_deeper]; omega) ?_
  intro h2 d t es n tk2 F2 N2 nr2 len2 ms2 xd od ox
  obtain ⟨v2, ms2, hv2⟩ := ms2
  dsimp only
  refine st_attr F2 X' N2 od xd cc nr2 (by omega) rfl rfl cc.se ?_ rfl rfl rfl (by decide) rfl
  intro h3 es3 n3 tk3 F3 N3 P3
  dsimp only
  have q3 := P3.len
  refine st_args F3 X' N3 ox xd cc rfl (.cons rfl rfl (by decide) .nil) (Nat.le_of_ble_eq_true rfl) ?_ rfl rfl rfl
  intro h9 t9 tk9 F9 N9 l9
  refine wpAny_execs_nil ?_
  k_unfold
  exact h h9 d t9 es3 n3 tk9 (made_end hin F9 N9 (.head _) (.tail _ (.head _)) (.tail _ (.tail _ (.head _))) P3.nr (by omega) ((P3.other _ (by decide)).trans ms2) hv2)
theorem init_no {prog : Program} {w : World} {tk ts : Tok} : InitP prog w 940 3 115 [.int 4 tk, .str "s" ts] [] (msgOf 4) [.int 4 tk, .str "s" ts] := by
  intro base l mg mb loose mean s R A x C t0 cc hst hff X T hA hdp hx hbx hxf h
  w_on
  refine' enterL (binds := [("self", .ref x), ("option", .int 4 tk), ("section", .str "s" ts)]) (news := [(x, excObj C none (.ref t0) .none .none)]) hA hst hff X T ?kn ?k6 ?k7 ?k8 ?k9 ?kB ?_ ?c2 ?c3 ?c4 ?c5
  (case kn => intro b hb; rw [List.mem_singleton.mp hb]; exact ⟨hx, hbx, hxf⟩)
  (case k6 => k_dflt k_is); (case k7 => k_dflt k_is); (case k8 => exact Nat.lt_of_le_of_lt hdp (by decide)); (case k9 => exact BindsTo.of_eq rfl); (case c5 => decide); (case kB => exact locs rfl); (case c2 => exact rfl); (case c3 => exact rfl); (case c4 => exact rfl)
  intro g' L' h₁ F' N' B' X' T' hL' hin hout hlt
  subst hL'
  clear hout hlt hx hbx hxf hst hff
  k_fold
  repeat' ((fail_if_success (with_reducible show wpAny _ _ (call (Value.ref _) _) _ _ _)); first | (with_reducible refine execs_one ?_; (try dsimp only)) | (with_reducible ((with_reducible show wpAny _ _ (pyReprObj (Value.str (PySem.Str.ofString _) _)) _ _ _); refine Mine.reprL (y := PySem.Str.ofString "'s'") (by decide +kernel) (by decide +kernel) ?_)) | walk1 | (dsimp only; walk1) | (dsimp only [List.nil_append, List.cons_append]; walk1) | fail "no step")
  refine init_K (init_err (mv := msgOf 4) (datStr (by decide +kernel))) B' (by k_asm) (news_one (by k_asm) (by k_mem)) (fun p hp => absurd hp List.not_mem_nil) (Around.frames_deeper hA) rfl rfl X T cc (by rw [depth_deeper]; omega) ?_
  intro h2 d t es n tk2 F2 N2 nr2 len2 ms2 xd od ox
  obtain ⟨v2, ms2, hv2⟩ := ms2
  dsimp only
  refine st_attr F2 X' N2 od xd cc nr2 (by omega) rfl rfl cc.op ?_ rfl rfl rfl (by decide) rfl
  intro h3 es3 n3 tk3 F3 N3 P3
  dsimp only
  have q3 := P3.len
  refine st_attr F3 X' N3 od xd cc P3.nr (by omega) rfl rfl cc.se ?_ rfl rfl rfl (by decide) rfl
  intro h4 es4 n4 tk4 F4 N4 P4
  dsimp only
  have q4 := P4.len
  refine st_args F4 X' N4 ox xd cc rfl (.cons rfl rfl (by decide) (.cons rfl rfl (by decide) .nil)) (Nat.le_of_ble_eq_true rfl) ?_ rfl rfl rfl
  intro h9 t9 tk9 F9 N9 l9
  refine wpAny_execs_nil ?_
  k_unfold
  exact h h9 d t9 es4 n4 tk9 (made_end hin F9 N9 (.head _) (.tail _ (.head _)) (.tail _ (.tail _ (.head _))) P4.nr (by omega) ((P4.other _ (by decide)).trans ((P3.other _ (by decide)).trans ms2)) hv2)
theorem init_ie {prog : Program} {w : World} {vo vs vm : Value} {mv : Dat} (hv : DatIn [] vm mv) : InitP prog w 945 3 134 [vo, vs, vm] [] mv [vo, vs, vm] := by
  intro base l mg mb loose mean s R A x C t0 cc hst hff X T hA hdp hx hbx hxf h
  w_on
  refine' enterL (binds := [("self", .ref x), ("option", vo), ("section", vs), ("msg", vm)]) (news := [(x, excObj C none (.ref t0) .none .none)]) hA hst hff X T ?kn ?k6 ?k7 ?k8 ?k9 ?kB ?_ ?c2 ?c3 ?c4 ?c5
  (case kn => intro b hb; rw [List.mem_singleton.mp hb]; exact ⟨hx, hbx, hxf⟩)
  (case k6 => k_dflt k_is); (case k7 => k_dflt k_is); (case k8 => exact Nat.lt_of_le_of_lt hdp (by decide)); (case k9 => exact BindsTo.of_eq rfl); (case c5 => decide); (case kB => exact locs rfl); (case c2 => exact rfl); (case c3 => exact rfl); (case c4 => exact rfl)
  intro g' L' h₁ F' N' B' X' T' hL' hin hout hlt
  subst hL'
  clear hout hlt hx hbx hxf hst hff
  k_fold
  repeat' ((fail_if_success (with_reducible show wpAny _ _ (call (Value.ref _) _) _ _ _)); first | (with_reducible refine execs_one ?_; (try dsimp only)) | walk1 | (dsimp only; walk1) | (dsimp only [List.nil_append, List.cons_append]; walk1) | fail "no step")
  refine init_K (init_err hv) B' (by k_asm) (news_one (by k_asm) (by k_mem)) (fun p hp => absurd hp List.not_mem_nil) (Around.frames_deeper hA) rfl rfl X T cc (by rw [depth_deeper]; omega) ?_
  intro h2 d t es n tk2 F2 N2 nr2 len2 ms2 xd od ox
  obtain ⟨v2, ms2, hv2⟩ := ms2
  dsimp only
  refine st_attr F2 X' N2 od xd cc nr2 (by omega) rfl rfl cc.op ?_ rfl rfl rfl (by decide) rfl
  intro h3 es3 n3 tk3 F3 N3 P3
  dsimp only
  have q3 := P3.len
  refine st_attr F3 X' N3 od xd cc P3.nr (by omega) rfl rfl cc.se ?_ rfl rfl rfl (by decide) rfl
  intro h4 es4 n4 tk4 F4 N4 P4
  dsimp only
  have q4 := P4.len
  refine st_args F4 X' N4 ox xd cc rfl (.cons rfl rfl (by decide) (.cons rfl rfl (by decide) (.cons rfl rfl (by decide) .nil))) (Nat.le_of_ble_eq_true rfl) ?_ rfl rfl rfl
  intro h9 t9 tk9 F9 N9 l9
  refine wpAny_execs_nil ?_
  k_unfold
  exact h h9 d t9 es4 n4 tk9 (made_end hin F9 N9 (.head _) (.tail _ (.head _)) (.tail _ (.tail _ (.head _))) P4.nr (by omega) ((P4.other _ (by decide)).trans ((P3.other _ (by decide)).trans ms2)) hv2)
theorem init_im {prog : Program} {w : World} {tk ts tv tr : Tok} : InitP prog w 940 4 153 [.int 7 tk, .str "s" ts, .str "v" tv, .str "r" tr] [] (msgOf 7) [.int 7 tk, .str "s" ts, .str "v" tv, .str "r" tr] := by
  intro base l mg mb loose mean s R A x C t0 cc hst hff X T hA hdp hx hbx hxf h
  w_on
  refine' enterL (binds := [("self", .ref x), ("option", .int 7 tk), ("section", .str "s" ts), ("rawval", .str "v" tv), ("reference", .str "r" tr)]) (news := [(x, excObj C none (.ref t0) .none .none)]) hA hst hff X T ?kn ?k6 ?k7 ?k8 ?k9 ?kB ?_ ?c2 ?c3 ?c4 ?c5
  (case kn => intro b hb; rw [List.mem_singleton.mp hb]; exact ⟨hx, hbx, hxf⟩)
  (case k6 => k_dflt k_is); (case k7 => k_dflt k_is); (case k8 => exact Nat.lt_of_le_of_lt hdp (by decide)); (case k9 => exact BindsTo.of_eq rfl); (case c5 => decide); (case kB => exact locs rfl); (case c2 => exact rfl); (case c3 => exact rfl); (case c4 => exact rfl)
  intro g' L' h₁ F' N' B' X' T' hL' hin hout hlt
  subst hL'
  clear hout hlt hx hbx hxf hst hff
  k_fold
  repeat' ((fail_if_success (with_reducible show wpAny _ _ (call (Value.ref _) _) _ _ _)); first | (with_reducible refine execs_one ?_; (try dsimp only)) | (with_reducible ((with_reducible show wpAny _ _ (call (Value.builtin "str.format") _) _ _ _); (try dsimp only [List.nil_append, List.cons_append]); (with_reducible show wpAny _ _ (call (Value.builtin "str.format") [_, _, _, _, _]) _ _ _); (first | with_reducible refine Mine.fA_fmt ?_ | with_reducible refine Mine.fB_fmt ?_); intro _ _)) | walk1 | (dsimp only; walk1) | (dsimp only [List.nil_append, List.cons_append]; walk1) | fail "no step")
  refine init_K (init_ie (mv := msgOf 7) (.str _ _)) B' (by k_asm) (news_one (by k_asm) (by k_mem)) (fun p hp => absurd hp List.not_mem_nil) (Around.frames_deeper hA) rfl rfl X T cc (by rw [depth_deeper]; omega) ?_
  intro h2 d t es n tk2 F2 N2 nr2 len2 ms2 xd od ox
  obtain ⟨v2, ms2, hv2⟩ := ms2
  dsimp only
  refine st_attr F2 X' N2 od xd cc nr2 (by omega) rfl rfl cc.re ?_ rfl rfl rfl (by decide) rfl
  intro h3 es3 n3 tk3 F3 N3 P3
  dsimp only
  have q3 := P3.len
  refine st_args F3 X' N3 ox xd cc rfl (.cons rfl rfl (by decide) (.cons rfl rfl (by decide) (.cons rfl rfl (by decide) (.cons rfl rfl (by decide) .nil)))) (Nat.le_of_ble_eq_true rfl) ?_ rfl rfl rfl
  intro h9 t9 tk9 F9 N9 l9
  refine wpAny_execs_nil ?_
  k_unfold
  exact h h9 d t9 es3 n3 tk9 (made_end hin F9 N9 (.head _) (.tail _ (.head _)) (.tail _ (.tail _ (.head _))) P3.nr (by omega) ((P3.other _ (by decide)).trans ms2) hv2)
theorem init_id {prog : Program} {w : World} {tk ts tv : Tok} : InitP prog w 940 3 184 [.int 8 tk, .str "s" ts, .str "w" tv] [] (msgOf 8) [.int 8 tk, .str "s" ts, .str "w" tv] := by
  intro base l mg mb loose mean s R A x C t0 cc hst hff X T hA hdp hx hbx hxf h
  w_on
  refine' enterL (binds := [("self", .ref x), ("option", .int 8 tk), ("section", .str "s" ts), ("rawval", .str "w" tv)]) (news := [(x, excObj C none (.ref t0) .none .none)]) hA hst hff X T ?kn ?k6 ?k7 ?k8 ?k9 ?kB ?_ ?c2 ?c3 ?c4 ?c5
  (case kn => intro b hb; rw [List.mem_singleton.mp hb]; exact ⟨hx, hbx, hxf⟩)
  (case k6 => k_dflt k_is); (case k7 => k_dflt k_is); (case k8 => exact Nat.lt_of_le_of_lt hdp (by decide)); (case k9 => exact BindsTo.of_eq rfl); (case c5 => decide); (case kB => exact locs rfl); (case c2 => exact rfl); (case c3 => exact rfl); (case c4 => exact rfl)
  intro g' L' h₁ F' N' B' X' T' hL' hin hout hlt
  subst hL'
  clear hout hlt hx hbx hxf hst hff
  k_fold
  repeat' ((fail_if_success (with_reducible show wpAny _ _ (call (Value.ref _) _) _ _ _)); first | (with_reducible refine execs_one ?_; (try dsimp only)) | (with_reducible ((with_reducible show wpAny _ _ (call (Value.builtin "str.format") _) _ _ _); (try dsimp only [List.nil_append, List.cons_append]); (with_reducible show wpAny _ _ (call (Value.builtin "str.format") [_, _, _, _, _]) _ _ _); (first | with_reducible refine Mine.fA_fmt ?_ | with_reducible refine Mine.fB_fmt ?_); intro _ _)) | walk1 | (dsimp only; walk1) | (dsimp only [List.nil_append, List.cons_append]; walk1) | fail "no step")
  refine init_K (init_ie (mv := msgOf 8) (.str _ _)) B' (by k_asm) (news_one (by k_asm) (by k_mem)) (fun p hp => absurd hp List.not_mem_nil) (Around.frames_deeper hA) rfl rfl X T cc (by rw [depth_deeper]; omega) ?_
  intro h2 d t es n tk2 F2 N2 nr2 len2 ms2 xd od ox
  obtain ⟨v2, ms2, hv2⟩ := ms2
  dsimp only
  refine st_args F2 X' N2 ox xd cc rfl (.cons rfl rfl (by decide) (.cons rfl rfl (by decide) (.cons rfl rfl (by decide) .nil))) (Nat.le_of_ble_eq_true rfl) ?_ rfl rfl rfl
  intro h9 t9 tk9 F9 N9 l9
  refine wpAny_execs_nil ?_
  k_unfold
  exact h h9 d t9 es n tk9 (made_end hin F9 N9 (.head _) (.tail _ (.head _)) (.tail _ (.tail _ (.head _))) nr2 (by omega) ms2 hv2)
theorem init_ds {prog : Program} {w : World} {tk ts tl : Tok} : InitP prog w 940 4 76 [.int 2 tk, .str "f" ts, .int 20 tl] [] (msgOf 2) [.int 2 tk, .str "f" ts, .int 20 tl] := by
  intro base l mg mb loose mean s R A x C t0 cc hst hff X T hA hdp hx hbx hxf h
  w_on
  refine' enterL (binds := [("self", .ref x), ("section", .int 2 tk), ("source", .str "f" ts), ("lineno", .int 20 tl)]) (news := [(x, excObj C none (.ref t0) .none .none)]) hA hst hff X T ?kn ?k6 ?k7 ?k8 ?k9 ?kB ?_ ?c2 ?c3 ?c4 ?c5
  (case kn => intro b hb; rw [List.mem_singleton.mp hb]; exact ⟨hx, hbx, hxf⟩)
  (case k6 => k_dflt k_is); (case k7 => k_dflt k_is); (case k8 => exact Nat.lt_of_le_of_lt hdp (by decide)); (case k9 => exact binds_K (X.keeps hst) rfl (by k_is) rfl rfl rfl); (case c5 => decide); (case kB => exact locs rfl); (case c2 => exact rfl); (case c3 => exact rfl); (case c4 => exact rfl)
  intro g' L' h₁ F' N' B' X' T' hL' hin hout hlt
  subst hL'
  clear hout hlt hx hbx hxf hst hff
  k_fold
  repeat' ((fail_if_success (with_reducible show wpAny _ _ (call (Value.ref _) _) _ _ _)); first | (with_reducible refine execs_one ?_; (try dsimp only)) | (with_reducible ((with_reducible show wpAny _ _ (call (Value.builtin _) [Value.str (PySem.Str.ofString _) _]) _ _ _); first | refine Mine.call_reprL (y := PySem.Str.ofString "'o'") (by decide +kernel) (by decide +kernel) ?_ | refine Mine.call_reprL (y := PySem.Str.ofString "'f'") (by decide +kernel) (by decide +kernel) ?_)) | (with_reducible ((with_reducible show wpAny _ _ (call (Value.builtin "str.format") _) _ _ _); (try dsimp only [List.nil_append, List.cons_append]); (with_reducible show wpAny _ _ (call (Value.builtin "str.format") [_, _]) _ _ _); with_reducible refine Mine.f20_fmt ?_; intro _ _)) | walk1 | (dsimp only; walk1) | (dsimp only [List.nil_append, List.cons_append]; walk1) | fail "no step")
  refine init_K (init_err (mv := msgOf 2) (datStr (by decide +kernel))) B' (by k_asm) (news_one (by k_asm) (by k_mem)) (fun p hp => absurd hp List.not_mem_nil) (Around.frames_deeper hA) rfl rfl X T cc (by rw [depth_deeper]; omega) ?_
  intro h2 d t es n tk2 F2 N2 nr2 len2 ms2 xd od ox
  obtain ⟨v2, ms2, hv2⟩ := ms2
  dsimp only
  refine st_attr F2 X' N2 od xd cc nr2 (by omega) rfl rfl cc.se ?_ rfl rfl rfl (by decide) rfl
  intro h3 es3 n3 tk3 F3 N3 P3
  dsimp only
  have q3 := P3.len
  refine st_attr F3 X' N3 od xd cc P3.nr (by omega) rfl rfl cc.so ?_ rfl rfl rfl (by decide) rfl
  intro h4 es4 n4 tk4 F4 N4 P4
  dsimp only
  have q4 := P4.len
  refine st_attr F4 X' N4 od xd cc P4.nr (by omega) rfl rfl cc.li ?_ rfl rfl rfl (by decide) rfl
  intro h5 es5 n5 tk5 F5 N5 P5
  dsimp only
  have q5 := P5.len
  refine st_args F5 X' N5 ox xd cc rfl (.cons rfl rfl (by decide) (.cons rfl rfl (by decide) (.cons rfl rfl (by decide) .nil))) (Nat.le_of_ble_eq_true rfl) ?_ rfl rfl rfl
  intro h9 t9 tk9 F9 N9 l9
  refine wpAny_execs_nil ?_
  k_unfold
  exact h h9 d t9 es5 n5 tk9 (made_end hin F9 N9 (.head _) (.tail _ (.head _)) (.tail _ (.tail _ (.head _))) P5.nr (by omega) ((P5.other _ (by decide)).trans ((P4.other _ (by decide)).trans ((P3.other _ (by decide)).trans ms2))) hv2)
theorem init_do {prog : Program} {w : World} {tk to ts : Tok} : InitP prog w 940 5 96 [.int 3 tk, .str "o" to, .str "f" ts] [] (msgOf 3) [.int 3 tk, .str "o" to, .str "f" ts, .none] := by
  intro base l mg mb loose mean s R A x C t0 cc hst hff X T hA hdp hx hbx hxf h
  w_on
  refine' enterL (binds := [("self", .ref x), ("section", .int 3 tk), ("option", .str "o" to), ("source", .str "f" ts), ("lineno", .none)]) (news := [(x, excObj C none (.ref t0) .none .none)]) hA hst hff X T ?kn ?k6 ?k7 ?k8 ?k9 ?kB ?_ ?c2 ?c3 ?c4 ?c5
  (case kn => intro b hb; rw [List.mem_singleton.mp hb]; exact ⟨hx, hbx, hxf⟩)
  (case k6 => k_dflt k_is); (case k7 => k_dflt k_is); (case k8 => exact Nat.lt_of_le_of_lt hdp (by decide)); (case k9 => exact binds_K (X.keeps hst) rfl (by k_is) rfl rfl rfl); (case c5 => decide); (case kB => exact locs rfl); (case c2 => exact rfl); (case c3 => exact rfl); (case c4 => exact rfl)
  intro g' L' h₁ F' N' B' X' T' hL' hin hout hlt
  subst hL'
  clear hout hlt hx hbx hxf hst hff
  k_fold
  repeat' ((fail_if_success (with_reducible show wpAny _ _ (call (Value.ref _) _) _ _ _)); first | (with_reducible refine execs_one ?_; (try dsimp only)) | (with_reducible ((with_reducible show wpAny _ _ (call (Value.builtin _) [Value.str (PySem.Str.ofString _) _]) _ _ _); first | refine Mine.call_reprL (y := PySem.Str.ofString "'o'") (by decide +kernel) (by decide +kernel) ?_ | refine Mine.call_reprL (y := PySem.Str.ofString "'f'") (by decide +kernel) (by decide +kernel) ?_)) | walk1 | (dsimp only; walk1) | (dsimp only [List.nil_append, List.cons_append]; walk1) | fail "no step")
  refine init_K (init_err (mv := msgOf 3) (datStr (by decide +kernel))) B' (by k_asm) (news_one (by k_asm) (by k_mem)) (fun p hp => absurd hp List.not_mem_nil) (Around.frames_deeper hA) rfl rfl X T cc (by rw [depth_deeper]; omega) ?_
  intro h2 d t es n tk2 F2 N2 nr2 len2 ms2 xd od ox
  obtain ⟨v2, ms2, hv2⟩ := ms2
  dsimp only
  refine st_attr F2 X' N2 od xd cc nr2 (by omega) rfl rfl cc.se ?_ rfl rfl rfl (by decide) rfl
  intro h3 es3 n3 tk3 F3 N3 P3
  dsimp only
  have q3 := P3.len
  refine st_attr F3 X' N3 od xd cc P3.nr (by omega) rfl rfl cc.op ?_ rfl rfl rfl (by decide) rfl
  intro h4 es4 n4 tk4 F4 N4 P4
  dsimp only
  have q4 := P4.len
  refine st_attr F4 X' N4 od xd cc P4.nr (by omega) rfl rfl cc.so ?_ rfl rfl rfl (by decide) rfl
  intro h5 es5 n5 tk5 F5 N5 P5
  dsimp only
  have q5 := P5.len
  refine st_attr F5 X' N5 od xd cc P5.nr (by omega) rfl rfl cc.li ?_ rfl rfl rfl (by decide) rfl
  intro h6 es6 n6 tk6 F6 N6 P6
  dsimp only
  have q6 := P6.len
  refine st_args F6 X' N6 ox xd cc rfl (.cons rfl rfl (by decide) (.cons rfl rfl (by decide) (.cons rfl rfl (by decide) (.cons rfl rfl (by decide) .nil)))) (Nat.le_of_ble_eq_true rfl) ?_ rfl rfl rfl
  intro h9 t9 tk9 F9 N9 l9
  refine wpAny_execs_nil ?_
  k_unfold
  exact h h9 d t9 es6 n6 tk9 (made_end hin F9 N9 (.head _) (.tail _ (.head _)) (.tail _ (.tail _ (.head _))) P6.nr (by omega) ((P6.other _ (by decide)).trans ((P5.other _ (by decide)).trans ((P4.other _ (by decide)).trans ((P3.other _ (by decide)).trans ms2)))) hv2)
end Mine

end
section -- L2err
open PySem PySem.W PyProof.Rows Mine
set_option maxRecDepth 100000
set_option maxHeartbeats 1000000
set_option linter.unusedVariables false
namespace Mine
theorem up {k n : Nat} (h : n ≤ k) (hn : ¬ (k : Int) = (n : Int)) : n + 1 ≤ k := Nat.lt_of_le_of_ne h fun z => hn (by rw [z])
theorem k8 {k : Nat} (h : k < 9) (h0 : ¬ (k : Int) = 0) (h1 : ¬ (k : Int) = 1) (h2 : ¬ (k : Int) = 2) (h3 : ¬ (k : Int) = 3) (h4 : ¬ (k : Int) = 4) (h5 : ¬ (k : Int) = 5) (h6 : ¬ (k : Int) = 6) (h7 : ¬ (k : Int) = 7) : k = 8 :=
  Nat.le_antisymm (Nat.le_of_lt_succ h) (up (n := 7) (up (n := 6) (up (n := 5) (up (n := 4) (up (n := 3) (up (n := 2) (up (n := 1) (up (n := 0) (Nat.zero_le k) h0) h1) h2) h3) h4) h5) h6) h7)
theorem err_leaf {S h1 h' : Heap} {j : Nat} {e d t : Addr} {es : List DictEntry} {n : Nat} {tk : Tok} {vs : List Value} (hs : ∀ b o, S.get? b = some o → h1.get? b = some o) (kp : ∀ b o, h1.get? b = some o → h'.get? b = some o) (ne : h1.get? e = none) (nd : h1.get? d = none) (nt : h1.get? t = none)
    (gx : h'.get? e = some (excObj (clsOf j) (some d) (.ref t) .none .none)) (gd : h'.get? d = some (dictOf es n)) (gt : h'.get? t = some (tupObj (.int j tk :: vs))) (nr : NoRef es) (ms : ∃ v, fnd "message" es = some v ∧ DatIn [] v (msgOf j)) (hda : DatAll [] vs (behindOf j)) :
    (∀ b o, S.get? b = some o → h'.get? b = some o) ∧ ErrAt j h' e d t .none .none ∧ S.get? e = none ∧ S.get? d = none ∧ S.get? t = none := by
  obtain ⟨v, m1, m2⟩ := ms
  have fr : ∀ b, h1.get? b = none → S.get? b = none := fun b hb => by
    cases z : S.get? b with
    | none => rfl
    | some o => rw [hs b o z] at hb; cases hb
  exact ⟨fun b o hb => kp b o (hs b o hb), ⟨gx, ⟨es, n, gd, v, by rw [getL_fnd nr, m1], m2⟩, ⟨tk, vs, gt, hda⟩⟩, fr _ ne, fr _ nd, fr _ nt⟩
theorem err_any {prog : Program} {w : World} {base : Heap} {l : List Env} {mg mb : Str → Option Value} {loose : List Str} {mean : ExcName → Option Value} {s : Shared} {tk : Tok} {R : Result → Shared → Prop} {A : Around} (k : Nat) (hk : k < 9) (hA : A.frames = some l) (hst : base.StaysIn s.heap) (hff : s.heap.FunFrames base l) (X : (hd.heap_39 w.params).In base) (T : Top hd.view_39 loose mean mg mb base) (hdp : A.depth ≤ 900)
    (h : ∀ h' e d t tk', (∀ b o, s.heap.get? b = some o → h'.get? b = some o) → (ErrAt k h' e d t .none .none ∧ s.heap.get? e = none ∧ s.heap.get? d = none ∧ s.heap.get? t = none) → R (.ok (.ret (.ref e))) { s with heap := h', toks := tk' }) :
    codeAny (model prog w) A (.call (.ref 196) ⟨[.int k tk], []⟩) R s := by
  w_on
  refine' enter0 (binds := [("kind", .int k tk)]) hA hst hff X T ?k6 ?k7 ?k8 ?k9 ?kB ?_ ?c2 ?c3 ?c4 ?c5
  (case k6 => k_dflt k_is); (case k7 => k_dflt k_is); (case k8 => exact Nat.lt_of_le_of_lt hdp (by decide)); (case k9 => exact BindsTo.of_eq rfl); (case c5 => decide); (case kB => exact locs rfl); (case c2 => exact rfl); (case c3 => exact rfl); (case c4 => exact rfl)
  intro L' h₁ F' N' B' X' T'
  k_fold
  repeat' ((fail_if_success (with_reducible show wpAny _ _ (call (Value.ref _) _ _) _ _ _)); first | (with_reducible refine execs_one ?_; (try dsimp only)) | ((with_reducible show ite _ _ _); first | with_reducible refine ite_tt ?_ | with_reducible refine ite_ff ?_ | (with_reducible refine split_ieq ?_ ?_ <;> intro _)) | walk1 | (dsimp only; walk1) | fail "no step")
  · obtain rfl : k = 0 := Int.ofNat.inj (by assumption)
    refine make_K (k := 0) (kw := [("msg", .int 0 _)]) (init_errK (mv := msgOf 0) (.int _ _)) (by decide) rfl B' (by k_asm) (by k_asm) (Around.frames_deeper hA) rfl rfl X T (by kernel_rfl) (by kernel_rfl) (Nat.le_of_ble_eq_true rfl) (by rw [depth_deeper]; omega) ?_
    intro h2 e d t es n tk2 kp ne nd nt gx gd gt nr ms
    k_unfold
    have z := err_leaf (j := 0) F'.keep kp ne nd nt gx gd gt nr ms .nil
    exact h h2 e d t _ z.1 z.2
  · obtain rfl : k = 1 := Int.ofNat.inj (by assumption)
    refine make_K (k := 1) init_ns (by decide) rfl B' (by k_asm) (by k_asm) (Around.frames_deeper hA) rfl rfl X T (by kernel_rfl) (by kernel_rfl) (Nat.le_of_ble_eq_true rfl) (by rw [depth_deeper]; omega) ?_
    intro h2 e d t es n tk2 kp ne nd nt gx gd gt nr ms
    k_unfold
    have z := err_leaf (j := 1) F'.keep kp ne nd nt gx gd gt nr ms .nil
    exact h h2 e d t _ z.1 z.2
  · obtain rfl : k = 2 := Int.ofNat.inj (by assumption)
    refine make_K (k := 2) init_ds (by decide) rfl B' (by k_asm) (by k_asm) (Around.frames_deeper hA) rfl rfl X T (by kernel_rfl) (by kernel_rfl) (Nat.le_of_ble_eq_true rfl) (by rw [depth_deeper]; omega) ?_
    intro h2 e d t es n tk2 kp ne nd nt gx gd gt nr ms
    k_unfold
    have z := err_leaf (j := 2) F'.keep kp ne nd nt gx gd gt nr ms (.cons (.str _ _) (.cons (.int _ _) .nil))
    exact h h2 e d t _ z.1 z.2
  · obtain rfl : k = 3 := Int.ofNat.inj (by assumption)
    refine make_K (k := 3) init_do (by decide) rfl B' (by k_asm) (by k_asm) (Around.frames_deeper hA) rfl rfl X T (by kernel_rfl) (by kernel_rfl) (Nat.le_of_ble_eq_true rfl) (by rw [depth_deeper]; omega) ?_
    intro h2 e d t es n tk2 kp ne nd nt gx gd gt nr ms
    k_unfold
    have z := err_leaf (j := 3) F'.keep kp ne nd nt gx gd gt nr ms (.cons (.str _ _) (.cons (.str _ _) (.cons .none .nil)))
    exact h h2 e d t _ z.1 z.2
  · obtain rfl : k = 4 := Int.ofNat.inj (by assumption)
    refine make_K (k := 4) init_no (by decide) rfl B' (by k_asm) (by k_asm) (Around.frames_deeper hA) rfl rfl X T (by kernel_rfl) (by kernel_rfl) (Nat.le_of_ble_eq_true rfl) (by rw [depth_deeper]; omega) ?_
    intro h2 e d t es n tk2 kp ne nd nt gx gd gt nr ms
    k_unfold
    have z := err_leaf (j := 4) F'.keep kp ne nd nt gx gd gt nr ms (.cons (.str _ _) .nil)
    exact h h2 e d t _ z.1 z.2
  · obtain rfl : k = 5 := Int.ofNat.inj (by assumption)
    refine make_K (k := 5) (init_ie (mv := msgOf 5) (.str _ _)) (by decide) rfl B' (by k_asm) (by k_asm) (Around.frames_deeper hA) rfl rfl X T (by kernel_rfl) (by kernel_rfl) (Nat.le_of_ble_eq_true rfl) (by rw [depth_deeper]; omega) ?_
    intro h2 e d t es n tk2 kp ne nd nt gx gd gt nr ms
    k_unfold
    have z := err_leaf (j := 5) F'.keep kp ne nd nt gx gd gt nr ms (.cons (.str _ _) (.cons (.str _ _) .nil))
    exact h h2 e d t _ z.1 z.2
  · obtain rfl : k = 6 := Int.ofNat.inj (by assumption)
    refine make_K (k := 6) (init_ie (mv := msgOf 6) (.str _ _)) (by decide) rfl B' (by k_asm) (by k_asm) (Around.frames_deeper hA) rfl rfl X T (by kernel_rfl) (by kernel_rfl) (Nat.le_of_ble_eq_true rfl) (by rw [depth_deeper]; omega) ?_
    intro h2 e d t es n tk2 kp ne nd nt gx gd gt nr ms
    k_unfold
    have z := err_leaf (j := 6) F'.keep kp ne nd nt gx gd gt nr ms (.cons (.str _ _) (.cons (.str _ _) .nil))
    exact h h2 e d t _ z.1 z.2
  · obtain rfl : k = 7 := Int.ofNat.inj (by assumption)
    refine make_K (k := 7) init_im (by decide) rfl B' (by k_asm) (by k_asm) (Around.frames_deeper hA) rfl rfl X T (by kernel_rfl) (by kernel_rfl) (Nat.le_of_ble_eq_true rfl) (by rw [depth_deeper]; omega) ?_
    intro h2 e d t es n tk2 kp ne nd nt gx gd gt nr ms
    k_unfold
    have z := err_leaf (j := 7) F'.keep kp ne nd nt gx gd gt nr ms (.cons (.str _ _) (.cons (.str _ _) (.cons (.str _ _) .nil)))
    exact h h2 e d t _ z.1 z.2
  · obtain rfl : k = 8 := k8 hk (by assumption) (by assumption) (by assumption) (by assumption) (by assumption) (by assumption) (by assumption) (by assumption)
    refine make_K (k := 8) init_id (by decide) rfl B' (by k_asm) (by k_asm) (Around.frames_deeper hA) rfl rfl X T (by kernel_rfl) (by kernel_rfl) (Nat.le_of_ble_eq_true rfl) (by rw [depth_deeper]; omega) ?_
    intro h2 e d t es n tk2 kp ne nd nt gx gd gt nr ms
    k_unfold
    have z := err_leaf (j := 8) F'.keep kp ne nd nt gx gd gt nr ms (.cons (.str _ _) (.cons (.str _ _) .nil))
    exact h h2 e d t _ z.1 z.2
end Mine

end
section -- L2e
set_option maxRecDepth 100000
set_option maxHeartbeats 4000000
set_option linter.unusedVariables false
namespace Mine
open PySem PySem.W PyProof.Rows

section
variable {prog : Program} {w : World} {hd0 : Option Value} {dp un : Nat} {gs : Option (List Code)} {base : Heap} {l : List Env} {mg mb : Str → Option Value} {loose : List Str} {mean : ExcName → Option Value} {s : Shared} {tk : Tok} {R : Result → Shared → Prop} {Q : Value → Shared → Prop} {E : Value → Shared → Prop}
/-- _law_error as a step of the walk -/
theorem err_K {A A₀ : Around} {h₀ : Heap} {outer : List Env} {env : Env} {L : Addr} {m : Str → Option Value} {news : List (Addr × Obj)} {n : Int} (k : Nat) (hn : n = k) (hk : k < 9)
    (B : Below A₀ base outer h₀) (F : Fr h₀ L s.heap m) (N : News h₀ L s.heap news) (hA : A.frames = some (env :: outer)) (hf : env.frame = some L) (hke : env.scope.kind = .function)
    (X : (hd.heap_39 w.params).In base) (T : Top hd.view_39 loose mean mg mb base) (hdp : A.depth ≤ 900)
    (h : ∀ h' e d t tk', Fr h₀ L h' m → News h₀ L h' news → (∀ b o, s.heap.get? b = some o → h'.get? b = some o) → ErrAt k h' e d t .none .none → s.heap.get? e = none → s.heap.get? d = none → s.heap.get? t = none → Q (.ref e) { s with heap := h', toks := tk' }) :
    wpAny (model prog w) A (call (.ref 196) [.int n tk]) Q E s := by
  subst hn
  have hbL : base.get? L = none := by
    cases q : base.get? L with
    | none => rfl
    | some o => exact absurd (Nat.lt_of_lt_of_le (Heap.lt_size (B.stays L o q)) F.above) (Nat.lt_irrefl _)
  have hff : s.heap.FunFrames base (env :: outer) := .cons (by rw [hke]; decide) hf F.ns hbL (B.frames.of_keeps fun b o e _ => ⟨o, F.keep b o e, rfl⟩)
  refine wpAny_call (err_any k hk hA (fun b o e => F.keep b o (B.stays b o e)) hff X T hdp fun h' e d t tk' hk' x => ?_)
  refine h h' e d t tk' ⟨F.ns.keeps hk', fun b o q => hk' b o (F.keep b o q), F.above⟩ (fun q hq => ⟨hk' _ _ (N q hq).1, (N q hq).2⟩) hk' x.1 x.2.1 x.2.2.1 x.2.2.2
end
end Mine

end
section -- L2f
set_option maxRecDepth 100000
set_option maxHeartbeats 4000000
set_option linter.unusedVariables false
namespace Mine
open PySem PySem.W PyProof.Rows

structure CF (K : Frag) (C : Addr) : Prop where
  ga : findIn K (.ref C) "__getattribute__" = some (some (.builtin "BaseException.__getattribute__"))
  gh : findIn K (.ref C) "__getattr__" = some none
  ex : exIn K C = true
  hd : hasDictIn K C = true
  ms : findIn K (.ref C) "message" = some none
  ar : findIn K (.ref C) "args" = some (some (.builtin "BaseException.args"))
theorem cf_all (P : Params) : ∀ k, k < 9 → CF (hd.heap_39 P) (clsOf k)
  | 0, _ => ⟨by kernel_rfl, by kernel_rfl, by kernel_rfl, by kernel_rfl, by kernel_rfl, by kernel_rfl⟩
  | 1, _ => ⟨by kernel_rfl, by kernel_rfl, by kernel_rfl, by kernel_rfl, by kernel_rfl, by kernel_rfl⟩
  | 2, _ => ⟨by kernel_rfl, by kernel_rfl, by kernel_rfl, by kernel_rfl, by kernel_rfl, by kernel_rfl⟩
  | 3, _ => ⟨by kernel_rfl, by kernel_rfl, by kernel_rfl, by kernel_rfl, by kernel_rfl, by kernel_rfl⟩
  | 4, _ => ⟨by kernel_rfl, by kernel_rfl, by kernel_rfl, by kernel_rfl, by kernel_rfl, by kernel_rfl⟩
  | 5, _ => ⟨by kernel_rfl, by kernel_rfl, by kernel_rfl, by kernel_rfl, by kernel_rfl, by kernel_rfl⟩
  | 6, _ => ⟨by kernel_rfl, by kernel_rfl, by kernel_rfl, by kernel_rfl, by kernel_rfl, by kernel_rfl⟩
  | 7, _ => ⟨by kernel_rfl, by kernel_rfl, by kernel_rfl, by kernel_rfl, by kernel_rfl, by kernel_rfl⟩
  | 8, _ => ⟨by kernel_rfl, by kernel_rfl, by kernel_rfl, by kernel_rfl, by kernel_rfl, by kernel_rfl⟩
  | n + 9, h => absurd h (by omega)
theorem cf_get (P : Params) : specialIn (hd.heap_39 P) (.builtin "BaseException.args") "__get__" = some (some (.builtin "getset_descriptor.__get__")) := by kernel_rfl
theorem cf_takes (P : Params) : takesIn (hd.heap_39 P) (.builtin "BaseException.args") = some true := by kernel_rfl

theorem ne_cls {h : Heap} {a b : Addr} {o o' : Obj} (h1 : h.get? a = some o) (h2 : h.get? b = some o') (hne : o.cls ≠ o'.cls) : @Ne Nat a b := fun z => by
  have : a = b := z
  subst this
  rw [h1] at h2
  injection h2 with h2
  exact hne (by rw [h2])
theorem idx0 {α : Type} (x : α) (l : List α) : seqIndex? 0 (x :: l).length = some 0 := by
  have : (0 : Int) < ((x :: l).length : Int) := by rw [List.length_cons]; omega
  simp only [seqIndex?]
  simp
section
variable {prog : Program} {w : World} {A : Around} {E : Value → Shared → Prop} {s : Shared} {h₀ : Heap} {L p d t : Addr} {m : Str → Option Value} {news : List (Addr × Obj)} {Q : Value → Shared → Prop} {k : Nat} {tb ctx mv : Value} {es : List DictEntry} {ne : Nat} {expr : Bool}
theorem get_msg (hk : k < 9) (F : Fr h₀ L s.heap m) (X₀ : (hd.heap_39 w.params).In h₀) (N : News h₀ L s.heap news) (h1 : (p, excObj (clsOf k) (some d) (.ref t) tb ctx) ∈ news) (h2 : (d, dictOf es ne) ∈ news)
    (hm : getL "message" es = some (some mv)) (hv : handedIn mv = true) (h : Q mv { s with toks := s.toks + 1 }) : wpAny (model prog w) A (getAttr (.ref p) "message" expr) Q E s :=
  have c := cf_all w.params k hk
  get_exc F X₀ N h1 h2 c.ga c.gh c.ex c.hd c.ms rfl hm hv h
theorem get_args {oo : Obj} (hk : k < 9) (F : Fr h₀ L s.heap m) (X₀ : (hd.heap_39 w.params).In h₀) (N : News h₀ L s.heap news) (h1 : (p, excObj (clsOf k) (some d) (.ref t) tb ctx) ∈ news) (h2 : (d, oo) ∈ news)
    (h : Q (.ref t) { s with toks := s.toks + 1 }) : wpAny (model prog w) A (getAttr (.ref p) "args" expr) Q E s :=
  have c := cf_all w.params k hk
  get_excArgs F X₀ (inst_exc N h1 h2) c.ga c.gh c.ex c.ar (cf_get _) (cf_takes _) h
end
end Mine

end
section -- L2g
set_option maxRecDepth 100000
set_option maxHeartbeats 4000000
set_option linter.unusedVariables false
namespace Mine
open PySem PySem.W PyProof.Rows

def rowOf (g : Int) (k : Nat) : List Dat := .int g :: msgOf k :: .int k :: behindOf k

theorem Ctxs.cls {h : Heap} {a q : Addr} {r : List Addr} (x : Ctxs h a r) {xs : Array Value} {n : Nat} (hq : h.get? q = some (listOf xs n)) : q ∉ a :: r := by
  induction x with
  | last he => intro z; simp only [List.mem_singleton] at z; subst z; rw [hq] at he; cases he
  | step he _ ih => intro z; rcases List.mem_cons.mp z with rfl | z; rw [hq] at he; cases he; exact ih z
theorem notTb {o : Obj} (h : o.cls ≠ .type "traceback") : ¬ isTb o := fun x => h x.1
theorem notTbL {xs : Array Value} {n : Nat} : ¬ isTb (listOf xs n) := fun x => by obtain ⟨_, _, h⟩ := x; cases h
theorem notTbD {xs : List DictEntry} {n : Nat} : ¬ isTb (dictOf xs n) := fun x => by obtain ⟨_, _, h⟩ := x; cases h
theorem notTbT {xs : List Value} : ¬ isTb (tupObj xs) := fun x => by obtain ⟨_, _, h⟩ := x; cases h
theorem notTbE {C : Addr} {d : Option Addr} {a tb ctx : Value} : ¬ isTb (excObj C d a tb ctx) := fun x => by obtain ⟨h, _⟩ := x; cases h

theorem ErrAt.kept {k : Nat} {fs X : List Addr} {h h' : Heap} {e d t : Addr} {tb tb' ctx ctx' : Value} (x : ErrAt k h e d t tb ctx) (K : Kept fs X h h') (he : h'.get? e = some (excObj (clsOf k) (some d) (.ref t) tb' ctx')) (h1 : d ∉ X) (h2 : t ∉ X) (h3 : d ∉ fs) (h4 : t ∉ fs) : ErrAt k h' e d t tb' ctx' := by
  obtain ⟨_, ⟨es, n, hd, r⟩, ⟨tk, vs, ht, r2⟩⟩ := x
  exact ⟨he, ⟨es, n, K.get hd h1 notTbD h3, r⟩, ⟨tk, vs, K.get ht h2 notTbT h4, r2⟩⟩

section
variable {prog : Program} {w : World} {A : Around} {base h1 h2 : Heap} {env : Env} {l : List Env} {s s2 : Shared} {R : Result → Shared → Prop} {k' : Nat} {p q L e2 d2 t2 : Addr} {r : List Addr} {E : Value → Shared → Prop}
theorem on_end {xs xs' : Array Value} {n n' : Nat} (hk' : k' < 9) (hfr : A.frames = some (env :: l)) (hl : h1.FunFrames base (env :: l)) (hf : env.frame = some L) (hLn : s.heap.get? L = none) (hst : base.StaysIn h1) (X : (hd.heap_39 w.params).In base)
    (hs : s2.heap = h2) (hS1 : ∀ b o, s.heap.get? b = some o → b ≠ q → h1.get? b = some o) (hS2 : ∀ b o, h1.get? b = some o → h2.get? b = some o) (hE : ErrAt k' h2 e2 d2 t2 .none .none) (n1 : h1.get? e2 = none) (n2 : h1.get? d2 = none) (n3 : h1.get? t2 = none)
    (hq : s.heap.get? q = some (listOf xs n)) (hq1 : h1.get? q = some (listOf xs' n')) (hc : Ctxs s.heap p r) (nd : (p :: r).Nodup)
    (h : ∀ h' tb', Kept (l.filterMap (·.frame)) [q] s.heap h' → (∀ b o, h1.get? b = some o → b ∉ (env :: l).filterMap (·.frame) → ¬ isTb o → h'.get? b = some o) → base.StaysIn h' → ErrAt k' h' e2 d2 t2 tb' (.ref p) → Fly base h' e2 tb' .none → s.heap.get? e2 = none → s.heap.get? d2 = none → s.heap.get? t2 = none → R (.error (.ref e2)) { s2 with heap := h' }) :
    ∃ e C d a r, Value.ref e2 = .ref e ∧ s2.heap.get? e = some (excObj C d a .none .none) ∧ ECls (model prog w) s2.heap C ∧ Ctxs s2.heap p r ∧ (p :: r).Nodup ∧ e ∉ p :: r ∧
      wpAny (model prog w) A (leaving env (.ref e)) (fun _ s'' => R (.error (.ref e)) s'') (fun e' s'' => R (.error e') s'') { s2 with heap := s2.heap.update e (Obj.mapFields (·.setIfInBounds 2 (.ref p))) } := by
  subst hs
  have hst2 : base.StaysIn s2.heap := fun b o e => hS2 b o (hst b o e)
  have fresh : ∀ b, h1.get? b = none → s.heap.get? b = none := fun b hb => by
    cases z : s.heap.get? b with
    | none => rfl
    | some o =>
      by_cases hbq : b = q
      · subst hbq; rw [hq1] at hb; cases hb
      · rw [hS1 b o z hbq] at hb; cases hb
  have ne : e2 ∉ p :: r := fun z => by
    obtain ⟨o, ho⟩ := hc.mem _ z
    rw [fresh _ n1] at ho; cases ho
  have nq := hc.cls hq
  have hc2 : Ctxs s2.heap p r := hc.keeps fun b hb o ho => hS2 _ _ (hS1 b o ho fun z => nq (z ▸ hb))
  refine ⟨e2, clsOf k', some d2, .ref t2, r, rfl, hE.ex, ecls_of (X.keeps hst2) (cf_all _ _ hk').ex, hc2, nd, ne, ?_⟩
  have hx := Heap.get?_update_self (Obj.mapFields (·.setIfInBounds 2 (Value.ref p))) hE.ex rfl
  have other : ∀ b, b ≠ e2 → (s2.heap.update e2 (Obj.mapFields (·.setIfInBounds 2 (Value.ref p)))).get? b = s2.heap.get? b := fun b hb => Heap.get?_update_other _ _ (Ne.symm hb)
  have ofh1 : ∀ b o, h1.get? b = some o → (s2.heap.update e2 (Obj.mapFields (·.setIfInBounds 2 (Value.ref p)))).get? b = some o := fun b o hb => (other b fun z => by rw [z, n1] at hb; cases hb).trans (hS2 b o hb)
  have hff : (s2.heap.update e2 (Obj.mapFields (·.setIfInBounds 2 (Value.ref p)))).FunFrames base (env :: l) := hl.of_keeps fun b o hb _ => ⟨o, ofh1 b o hb, rfl⟩
  have ben : base.get? e2 = none := by
    cases z : base.get? e2 with
    | none => rfl
    | some o => rw [hst _ _ z] at n1; cases n1
  have nf : ∀ b, h1.get? b = none → b ∉ (env :: l).filterMap (·.frame) := fun b hb hm => by
    obtain ⟨_, o, ho, _⟩ := hl.mem hm
    rw [hb] at ho; cases ho
  refine leave_first (A := A) (s := { s2 with heap := s2.heap.update e2 (Obj.mapFields (·.setIfInBounds 2 (Value.ref p))) }) hfr hff hf hx (fun b o hb => ofh1 b o (hst b o hb)) ben fun h' tb' a1 a2 a3 a4 => ?_
  have nde : d2 ≠ e2 := fun z => by obtain ⟨es, n, hd, _⟩ := hE.di; rw [z, hE.ex] at hd; cases hd
  have nte : t2 ≠ e2 := fun z => by obtain ⟨es, n, hd, _⟩ := hE.tu; rw [z, hE.ex] at hd; cases hd
  have hE2 : ErrAt k' (s2.heap.update e2 (Obj.mapFields (·.setIfInBounds 2 (Value.ref p)))) e2 d2 t2 .none (.ref p) := by
    obtain ⟨_, ⟨es, n, hd, r⟩, ⟨tk, vs, ht, r2⟩⟩ := hE
    exact ⟨hx, ⟨es, n, (other _ nde).trans hd, r⟩, ⟨tk, vs, (other _ nte).trans ht, r2⟩⟩
  refine h h' tb' ?_ ?_ a4 (hE2.kept a3 a1 (by simp [nde]) (by simp [nte]) (nf _ n2) (nf _ n3)) a2 (fresh _ n1) (fresh _ n2) (fresh _ n3)
  · intro b o hb hbq htb
    have hb1 := hS1 b o hb (by simpa using hbq)
    have hb2 := ofh1 b o hb1
    obtain ⟨sl, e1, k1⟩ := a3 b o hb2 (by intro z; simp only [List.mem_singleton] at z; rw [z, n1] at hb1; cases hb1) htb
    refine ⟨sl, e1, fun nfl => k1 fun z => ?_⟩
    rw [List.filterMap_cons, hf] at z
    rcases List.mem_cons.mp z with rfl | z
    · rw [hLn] at hb; cases hb
    · exact nfl z
  · intro b o hb hnf htb
    exact a3.get (ofh1 b o hb) (by intro z; simp only [List.mem_singleton] at z; rw [z, n1] at hb; cases hb) htb hnf

theorem on_endB {A₀ : Around} {g : Heap} {m : Str → Option Value} {name : Str} {scope : Scope} {a : Addr} {cd : Value} {xs xs' : Array Value} {n n' : Nat} (hk' : k' < 9) (B : Below A₀ base l g) (F : Fr g L h1 m) (hLn : s.heap.get? L = none) (X : (hd.heap_39 w.params).In base)
    (hs : s2.heap = h2) (hS1 : ∀ b o, s.heap.get? b = some o → b ≠ q → h1.get? b = some o) (hS2 : ∀ b o, h1.get? b = some o → h2.get? b = some o) (hE : ErrAt k' h2 e2 d2 t2 .none .none) (n1 : h1.get? e2 = none) (n2 : h1.get? d2 = none) (n3 : h1.get? t2 = none)
    (hq : s.heap.get? q = some (listOf xs n)) (hq1 : h1.get? q = some (listOf xs' n')) (hc : Ctxs s.heap p r) (nd : (p :: r).Nodup)
    (h : ∀ h' tb', Kept (l.filterMap (·.frame)) [q] s.heap h' → (∀ b o, h1.get? b = some o → b ≠ L → b ∉ l.filterMap (·.frame) → ¬ isTb o → h'.get? b = some o) → base.StaysIn h' → ErrAt k' h' e2 d2 t2 tb' (.ref p) → Fly base h' e2 tb' .none → s.heap.get? e2 = none → s.heap.get? d2 = none → s.heap.get? t2 = none → R (.error (.ref e2)) { s2 with heap := h' })
    (hk : scope.kind = .function) :
    ∃ e C d a' r, Value.ref e2 = .ref e ∧ s2.heap.get? e = some (excObj C d a' .none .none) ∧ ECls (model prog w) s2.heap C ∧ Ctxs s2.heap p r ∧ (p :: r).Nodup ∧ e ∉ p :: r ∧
      wpAny (model prog w) (A₀.deeper (envOf name scope L a cd)) (leaving (envOf name scope L a cd) (.ref e)) (fun _ s'' => R (.error (.ref e)) s'') (fun e' s'' => R (.error e') s'') { s2 with heap := s2.heap.update e (Obj.mapFields (·.setIfInBounds 2 (.ref p))) } := by
  have BB : Below (A₀.deeper (envOf name scope L a cd)) base (envOf name scope L a cd :: l) h1 := B.push F hk
  refine on_end hk' BB.stack BB.frames rfl hLn BB.stays X hs hS1 hS2 hE n1 n2 n3 hq hq1 hc nd fun h' tb' u1 u2 u3 u4 u5 u6 u7 u8 => h h' tb' u1 (fun b o e a1 a2 a3 => u2 b o e (fun z => ?_) a3) u3 u4 u5 u6 u7 u8
  rcases List.mem_cons.mp z with z | z
  · exact a1 z
  · exact a2 z
end
end Mine

end
section -- L2on
open PySem PySem.W PyProof.Rows Mine
set_option maxRecDepth 100000
set_option maxHeartbeats 2000000
set_option linter.unusedVariables false
namespace Mine
section
variable {prog : Program} {w : World} {A : Around} {E : Value → Shared → Prop} {s : Shared} {h₀ : Heap} {L p d t : Addr} {k : Nat} {m : Str → Option Value} {tb ctx mv : Value} {news : List (Addr × Obj)} {es : List DictEntry} {ne : Nat} {Q : Value → Shared → Prop} {expr : Bool}
theorem get_msg2 (F : Fr h₀ L s.heap m) (X₀ : (hd.heap_39 w.params).In h₀) (N : News h₀ L s.heap news) (h1 : (p, excObj (clsOf k) (some d) (.ref t) tb ctx) ∈ news) (h2 : (d, dictOf es ne) ∈ news) (hk : k < 9)
    (hm : getL "message" es = some (some mv)) (hv : handedIn mv = true) (h : Q mv { s with toks := s.toks + 1 }) : wpAny (model prog w) A (getAttr (.ref p) "message" expr) Q E s := get_msg hk F X₀ N h1 h2 hm hv h
theorem get_args2 {oo : Obj} (F : Fr h₀ L s.heap m) (X₀ : (hd.heap_39 w.params).In h₀) (N : News h₀ L s.heap news) (h1 : (p, excObj (clsOf k) (some d) (.ref t) tb ctx) ∈ news) (h2 : (d, oo) ∈ news) (hk : k < 9)
    (h : Q (.ref t) { s with toks := s.toks + 1 }) : wpAny (model prog w) A (getAttr (.ref p) "args" expr) Q E s := get_args hk F X₀ N h1 h2 h
end
theorem on_code {prog : Program} {w : World} {base : Heap} {l : List Env} {mg mb : Str → Option Value} {loose : List Str} {mean : ExcName → Option Value} {s : Shared} {gt tk0 : Tok} {R : Result → Shared → Prop}
    {hd0 : Option Value} {dp un : Nat} {gs : Option (List Code)} {k : Nat} {g : Int} {p d t q : Addr} {tb ctx mv : Value} {r : List Addr} {its vs : List Value} {n ne : Nat} {es : List DictEntry} (hk : k < 9) (hg : 0 ≤ g ∧ g ≤ 12)
    (hst : base.StaysIn s.heap) (hff : s.heap.FunFrames base l) (X : (hd.heap_39 w.params).In base) (T : Top hd.view_39 loose mean mg mb base) (hdp : dp ≤ 800)
    (hp : s.heap.get? p = some (excObj (clsOf k) (some d) (.ref t) tb ctx)) (hd : s.heap.get? d = some (dictOf es ne)) (hm : getL "message" es = some (some mv)) (ht : s.heap.get? t = some (tupObj (.int k tk0 :: vs)))
    (hq : s.heap.get? q = some (listOf its.toArray n)) (hz : its.length ≤ 100) (hv : DatIn [] mv (msgOf k)) (hvs : DatAll [] vs (behindOf k)) (nb : ∀ b ∈ [q, p, d, t], base.get? b = none ∧ b ∉ l.filterMap (·.frame))
    (hc : Ctxs s.heap p r) (nd : (p :: r).Nodup)
    (h : ∀ h' e' d' t' tb' row rv n' tk', Kept (l.filterMap (·.frame)) [q] s.heap h' → base.StaysIn h' → h'.get? q = some (listOf (its ++ [Value.ref row]).toArray n') → h'.get? row = some (listOf rv.toArray 0) → DatAll [] rv (rowOf g k) → s.heap.get? row = none →
      ErrAt (((k : Int) + g + 1) % 9).toNat h' e' d' t' tb' (Value.ref p) → Fly base h' e' tb' .none → s.heap.get? e' = none → s.heap.get? d' = none → s.heap.get? t' = none → R (.error (.ref e')) { s with heap := h', toks := tk' }) :
    codeAny (model prog w) ⟨some (.ref p), dp, some l, gs, un⟩ (.call (.ref 203) ⟨[.ref p, .int g gt, .ref q], []⟩) R s := by
  have hk' : (((k : Int) + g + 1) % 9).toNat < 9 := by omega
  have hvh := hv.handed
  have hvl : vs.length ≤ 3 := by rw [hvs.length]; exact behind_len k
  w_on
  have dst : q < s.heap.objs.size ∧ @Ne Nat q p ∧ @Ne Nat q d ∧ @Ne Nat q t ∧ @Ne Nat p d ∧ @Ne Nat p t ∧ @Ne Nat d t := by
    exact ⟨Heap.lt_size hq, ne_cls hq hp (by simp), ne_cls hq hd (by simp), ne_cls hq ht (by simp), ne_cls hp hd (by simp), ne_cls hp ht (by simp), ne_cls hd ht (by simp)⟩
  obtain ⟨_, dst⟩ := dst
  refine' enterL (binds := [("caught", .ref p), ("guard", .int g gt), ("told", .ref q)]) (news := [(q, listOf its.toArray n), (p, excObj (clsOf k) (some d) (.ref t) tb ctx), (d, dictOf es ne), (t, tupObj (.int k tk0 :: vs))]) rfl hst hff X T ?kn ?k6 ?k7 ?k8 ?k9 ?kB ?_ ?c2 ?c3 ?c4 ?c5
  (case kn => intro b hb; simp only [List.mem_cons, List.not_mem_nil, or_false] at hb; rcases hb with rfl | rfl | rfl | rfl; exact ⟨hq, nb _ (by simp)⟩; exact ⟨hp, nb _ (by simp)⟩; exact ⟨hd, nb _ (by simp)⟩; exact ⟨ht, nb _ (by simp)⟩)
  (case k6 => k_dflt k_is); (case k7 => k_dflt k_is); (case k8 => (show dp < 1000); omega); (case k9 => exact BindsTo.of_eq rfl); (case c5 => decide); (case kB => exact locs rfl); (case c2 => exact rfl); (case c3 => exact rfl); (case c4 => exact rfl)
  intro g' L' h₁ F' N' B' X' T' hL' hin hout hlt
  subst hL'
  k_fold
  repeat' ((fail_if_success (with_reducible show wpAny _ _ (exec (Stmt.Raise _ _ _) _) _ _ _)); first | (k_unfold; (try dsimp only)) | (k_end; wrow_close) | (with_reducible refine execs_one ?_; (try dsimp only)) | ((with_reducible show wpAny _ _ (getAttr _ (PySem.Str.ofString "message") _) _ _ _); refine Mine.get_msg2 (by k_asm) (by k_asm) (by k_asm) (by k_mem) (by k_mem) (by assumption) (by assumption) (by assumption) ?_) | ((with_reducible show wpAny _ _ (getAttr _ (PySem.Str.ofString "args") _) _ _ _); refine Mine.get_args2 (by k_asm) (by k_asm) (by k_asm) (by k_mem) (by k_mem) (by assumption) ?_) | ((with_reducible show wpAny _ _ (call (Value.type _) [Value.ref _]) _ _ _); k_dflt (refine kup_listOfT (by k_asm) (by k_asm) (by k_mem) (by exact List.toList_toArray) ?_ (by simp only [List.toList_toArray, List.length_cons]; rw [sizeLine_eq]; omega)); intro D' c' h' F' N' l1; (try k_lt l1); (try k_sweep)) | ((with_reducible show wpAny _ _ (binaryOp _ (Value.ref _) (Value.ref _)) _ _ _); k_dflt (refine kmk_add_lit (by k_asm) (by k_asm) (by kmk_list) (by kmk_list) (by rw [List.toList_toArray, List.toList_toArray]) ?_ (by simp only [List.toList_toArray, List.length_cons, List.length_nil]; rw [sizeLine_eq]; omega)); intro D' h' F' N' l1; (try dsimp only [List.cons_append, List.nil_append] at N'); (try k_lt l1); (try k_sweep)) | ((try dsimp only [List.nil_append, List.cons_append]); (with_reducible show wpAny _ _ (call (Value.builtin "list.append") [Value.ref _, _]) _ _ _); k_dflt (refine append_K (by k_asm) (by k_asm) (by k_upd) ?_ (by rw [List.size_toArray, sizeLine_eq]; omega)); intro h' F' N'; (try k_sweep)) | ((with_reducible show wpAny _ _ (subscriptTail _ _ (Value.ref _) (Value.int 0 _)) _ _ _); k_dflt (refine item_tupleT (by exact News.isTup (by k_asm) (by k_mem)) (by decide) (by decide) (by exact Mine.idx0 _ _) (by exact rfl) ?_)) | walk1 | (dsimp only; walk1) | (dsimp only [List.nil_append, List.cons_append]; walk1) | (leave1; walk_say "STEP leave1"; try dsimp only) | fail "no step")
  refine exec_raise fun t' ht' => raise_some (p := p) (by rfl) (ht' _ _ _ ?_)
  repeat' ((fail_if_success (with_reducible show wpAny _ _ (call (Value.ref _) [Value.int _ _]) _ _ _)); first | (k_unfold; (try dsimp only)) | (k_end; wrow_close) | (with_reducible refine execs_one ?_; (try dsimp only)) | ((with_reducible show wpAny _ _ (getAttr _ (PySem.Str.ofString "message") _) _ _ _); refine Mine.get_msg2 (by k_asm) (by k_asm) (by k_asm) (by k_mem) (by k_mem) (by assumption) (by assumption) (by assumption) ?_) | ((with_reducible show wpAny _ _ (getAttr _ (PySem.Str.ofString "args") _) _ _ _); refine Mine.get_args2 (by k_asm) (by k_asm) (by k_asm) (by k_mem) (by k_mem) (by assumption) ?_) | ((with_reducible show wpAny _ _ (call (Value.type _) [Value.ref _]) _ _ _); k_dflt (refine kup_listOfT (by k_asm) (by k_asm) (by k_mem) (by exact List.toList_toArray) ?_ (by simp only [List.toList_toArray, List.length_cons]; rw [sizeLine_eq]; omega)); intro D' c' h' F' N' l1; (try k_lt l1); (try k_sweep)) | ((with_reducible show wpAny _ _ (binaryOp _ (Value.ref _) (Value.ref _)) _ _ _); k_dflt (refine kmk_add_lit (by k_asm) (by k_asm) (by kmk_list) (by kmk_list) (by rw [List.toList_toArray, List.toList_toArray]) ?_ (by simp only [List.toList_toArray, List.length_cons, List.length_nil]; rw [sizeLine_eq]; omega)); intro D' h' F' N' l1; (try dsimp only [List.cons_append, List.nil_append] at N'); (try k_lt l1); (try k_sweep)) | ((try dsimp only [List.nil_append, List.cons_append]); (with_reducible show wpAny _ _ (call (Value.builtin "list.append") [Value.ref _, _]) _ _ _); k_dflt (refine append_K (by k_asm) (by k_asm) (by k_upd) ?_ (by rw [List.size_toArray, sizeLine_eq]; omega)); intro h' F' N'; (try k_sweep)) | ((with_reducible show wpAny _ _ (subscriptTail _ _ (Value.ref _) (Value.int 0 _)) _ _ _); k_dflt (refine item_tupleT (by exact News.isTup (by k_asm) (by k_mem)) (by decide) (by decide) (by exact Mine.idx0 _ _) (by exact rfl) ?_)) | walk1 | (dsimp only; walk1) | (dsimp only [List.nil_append, List.cons_append]; walk1) | (leave1; walk_say "STEP leave1"; try dsimp only) | fail "no step")
  refine' err_K (((k : Int) + g + 1) % 9).toNat ?hn hk' ?kB ?kF ?kN rfl rfl rfl X T ?hdp ?_
  (case hn => rw [Int.fmod_eq_emod_of_nonneg _ (by decide)]; omega)
  (case kB => exact B')
  (case kF => k_asm)
  (case kN => k_asm)
  (case hdp => (show dp + 1 ≤ 900); omega)
  intro h2 e2 d2 t2 tk2 F2 N2 hk2 hE2 n1 n2 n3
  have hSS : ∀ b o, s.heap.get? b = some o → @Ne Nat b q → h'.get? b = some o := by
    intro b o hb hbq
    have g1 := (N' _ (.tail _ (.tail _ (.tail _ (.tail _ (.head _)))))).1
    have g2 := (N' _ (.tail _ (.tail _ (.tail _ (.tail _ (.tail _ (.head _))))))).1
    have g3 := (N' _ (.tail _ (.tail _ (.tail _ (.tail _ (.tail _ (.tail _ (.head _)))))))).1
    by_cases z1 : b = p
    · subst z1; rw [hp] at hb; rw [← hb]; exact g1
    by_cases z2 : b = d
    · subst z2; rw [hd] at hb; rw [← hb]; exact g2
    by_cases z3 : b = t
    · subst z3; rw [ht] at hb; rw [← hb]; exact g3
    exact F'.keep b o (hin b o hb (by simp only [List.map_cons, List.map_nil, List.mem_cons, List.not_mem_nil, or_false, not_or]; exact ⟨hbq, z1, z2, z3⟩))
  have hrow : s.heap.get? D' = none := by
    cases z : s.heap.get? D' with
    | none => rfl
    | some o =>
      have := hin D' o z (by simp only [List.map_cons, List.map_nil, List.mem_cons, List.not_mem_nil, or_false, not_or]; obtain ⟨_, _, a1, a2, a3, a4⟩ := l1; exact ⟨Nat.ne_of_gt a1, Nat.ne_of_gt a2, Nat.ne_of_gt a3, Nat.ne_of_gt a4⟩)
      rw [(N' _ (.head _)).2.2] at this; cases this
  have gq := (N' _ (.tail _ (.tail _ (.tail _ (.head _))))).1
  have gr := (N' _ (.head _)).1
  refine on_endB (s := s) (h1 := h') (q := q) (xs := its.toArray) (n := n) (xs' := its.toArray.push (.ref D')) (n' := n + 1) hk' B' F' (Heap.get?_none_of_le (Nat.le_refl _)) X rfl hSS hk2 hE2 n1 n2 n3 hq gq hc nd ?_ rfl
  intro h' tb' u1 u2 u3 u4 u5 u6 u7 u8
  refine h h' e2 d2 t2 tb' D' (.int g gt :: mv :: .int k tk0 :: vs) (n + 1) tk2 u1 u3 ?_ ?_ ?_ hrow u4 u5 u6 u7 u8
  · rw [u2 q _ gq (Nat.ne_of_lt (Heap.lt_size hq)) (nb q (by simp)).2 notTbL]; simp
  · exact u2 D' _ gr (N' _ (.head _)).2.1 (by intro z; obtain ⟨_, o', ho', _⟩ := hff.mem z; rw [hrow] at ho'; cases ho') notTbL
  · exact .cons (.int _ _) (.cons hv (.cons (.int _ _) hvs))
end Mine

end
section -- L2h
set_option maxRecDepth 100000
set_option maxHeartbeats 4000000
set_option linter.unusedVariables false
namespace Mine
open PySem PySem.W PyProof.Rows
section
variable {prog : Program} {w : World} {A : Around} {E : Value → Shared → Prop} {s : Shared} {h₀ : Heap} {L a b : Addr} {news : List (Addr × Obj)} {ka kb : Nat} {Q : Value → Shared → Prop}
theorem okInts (l : List Int) : ∀ d ∈ l.map Dat.int, kqdOk 8 d = true := fun d hd => by
  obtain ⟨i, _, rfl⟩ := List.mem_map.mp hd
  rfl
/-- a list of whole numbers, held against the empty list -/
theorem eq_cons {g : Int} {gt : Tok} {gv : List Value} {gr : List Int} (N : News h₀ L s.heap news) (ma : (a, listOf (Value.int g gt :: gv).toArray ka) ∈ news) (hv : DatAll [] gv (gr.map Dat.int)) (mb : (b, listOf #[] kb) ∈ news)
    (hu : A.units + 64 < cLine) (h : Q (.bool false) s) : wpAny (model prog w) A (compareOp .Eq (.ref a) (.ref b)) Q E s := by
  refine kqd_eq (ds := (g :: gr).map Dat.int) (es := []) (n₁ := []) (n₂ := []) (ys := []) N ma rfl rfl (.cons (.int _ _) hv) (fun _ x => absurd x List.not_mem_nil) mb rfl rfl .nil (fun _ x => absurd x List.not_mem_nil) (okInts _) (fun _ x => absurd x List.not_mem_nil) hu ?_
  rw [decide_eq_false (by simp)]
  exact h
theorem eq_nil (N : News h₀ L s.heap news) (ma : (a, listOf #[] ka) ∈ news) (mb : (b, listOf #[] kb) ∈ news)
    (hu : A.units + 64 < cLine) (h : Q (.bool true) s) : wpAny (model prog w) A (compareOp .Eq (.ref a) (.ref b)) Q E s := by
  refine kqd_eq (ds := []) (es := []) (n₁ := []) (n₂ := []) (xs := []) (ys := []) N ma rfl rfl .nil (fun _ x => absurd x List.not_mem_nil) mb rfl rfl .nil (fun _ x => absurd x List.not_mem_nil) (fun _ x => absurd x List.not_mem_nil) (fun _ x => absurd x List.not_mem_nil) hu ?_
  rw [decide_eq_true rfl]
  exact h
end
end Mine
namespace Mine
open PySem PySem.W PyProof.Rows
theorem slice1 (v : Value) (vs : List Value) : (slicePick (v :: vs).toArray (some 1) none none).toList = vs := by
  have e : sliceBounds (some 1) none none (v :: vs).toArray.size = (((1 : Nat) : Int), (((v :: vs).toArray.size : Nat) : Int), 1) := by
    simp only [sliceBounds, Option.getD_none, show (1 : Int) > 0 by decide, if_true, if_neg (show ¬ ((1 : Int) < 0) by decide), List.size_toArray, List.length_cons]
    congr 1
    try (congr 1; omega)
    try omega
  rw [kmk_pick_nat _ e]
  simp
end Mine

end
section -- L2i
set_option maxRecDepth 100000
set_option maxHeartbeats 1000000
set_option linter.unusedVariables false
namespace Mine
open PySem PySem.W PyProof.Rows

/-- nothing stands there, but maybe a traceback -/
def New (h : Heap) (a : Addr) : Prop := ∀ o, h.get? a = some o → isTb o
theorem New.of_none {h : Heap} {a : Addr} (x : h.get? a = none) : New h a := fun o ho => by rw [x] at ho; cases ho
theorem New.back {fs X : List Addr} {h h' : Heap} {a : Addr} (N : New h' a) (K : Kept fs X h h') (hx : a ∉ X) : New h a := fun o ho => by
  apply Classical.byContradiction
  intro hnt
  obtain ⟨sl, e, _⟩ := K a o ho hx hnt
  exact isTb_slots hnt (N _ e)
theorem New.keeps {h h' : Heap} {a : Addr} (N : New h' a) (K : ∀ b o, h.get? b = some o → h'.get? b = some o) : New h a := fun o ho => N o (K a o ho)
theorem New.ne {h : Heap} {a b : Addr} {o : Obj} (N : New h a) (hb : h.get? b = some o) (hnt : ¬ isTb o) : a ≠ b := fun z => hnt (N o (z ▸ hb))
theorem New.frames {h base : Heap} {l : List Env} {a : Addr} (N : New h a) (hff : h.FunFrames base l) : a ∉ l.filterMap (·.frame) := fun z => by
  obtain ⟨_, o, ho, hnf⟩ := hff.mem z
  obtain ⟨_, vs, hv⟩ := N o ho
  exact hnf vs hv
theorem Kept.oldN {fs fs' X X' : List Addr} {h h₂ : Heap} (x : Kept fs' X' h h₂) (h1 : ∀ b ∈ fs', b ∈ fs ∨ New h b) (h2 : ∀ b ∈ X', b ∈ X ∨ New h b) : Kept fs X h h₂ := fun b o e hx hb => by
  obtain ⟨sl, e1, k1⟩ := x b o e (fun q => (h2 b q).elim hx fun z => hb (z o e)) hb
  exact ⟨sl, e1, fun n => k1 fun q => (h1 b q).elim n fun z => hb (z o e)⟩
theorem exc_notFrame {h base : Heap} {l : List Env} {a C : Addr} {d : Option Addr} {ar tb ctx : Value} (ha : h.get? a = some (excObj C d ar tb ctx)) (hff : h.FunFrames base l) : a ∉ l.filterMap (·.frame) := fun z => by
  obtain ⟨_, o, ho, hnf⟩ := hff.mem z
  rw [ha] at ho; injection ho with ho; subst ho; exact hnf _ rfl
/-- the chain stays -/
theorem Ctxs.kept {h h' base : Heap} {l : List Env} {a : Addr} {r X : List Addr} (x : Ctxs h a r) (K : Kept (l.filterMap (·.frame)) X h h') (hff : h.FunFrames base l) (hx : ∀ b ∈ a :: r, b ∉ X) : Ctxs h' a r := by
  induction x with
  | last he => exact .last (K.get he (hx _ (.head _)) notTbE (exc_notFrame he hff))
  | step he _ ih => exact .step (K.get he (hx _ (.head _)) notTbE (exc_notFrame he hff)) (ih fun b hb => hx b (.tail _ hb))
/-- the chain stays, its head gets another traceback -/
theorem Ctxs.keptTb {h h' base : Heap} {l : List Env} {a C : Addr} {d : Option Addr} {ar tb tb' c : Value} {r X : List Addr} (x : Ctxs h a r) (K : Kept (l.filterMap (·.frame)) X h h') (hff : h.FunFrames base l) (hx : ∀ b ∈ r, b ∉ X)
    (he : h.get? a = some (excObj C d ar tb c)) (he' : h'.get? a = some (excObj C d ar tb' c)) : Ctxs h' a r := by
  cases x with
  | last h1 => rw [h1] at he; injection he with he; injection he with e1 e2 e3 e4; injection e3 with e3; have := congrArg (·[2]?) e3; simp at this; subst this; exact .last he'
  | step h1 h2 =>
    rw [h1] at he; injection he with he; injection he with e1 e2 e3 e4; injection e3 with e3; have := congrArg (·[2]?) e3; simp at this; subst this
    exact .step he' (h2.kept K hff hx)
theorem Ctxs.exc {h : Heap} {a : Addr} {r : List Addr} (x : Ctxs h a r) : ∀ b ∈ a :: r, ∃ C d ar tb c, h.get? b = some (excObj C d ar tb c) := by
  induction x with
  | last he => intro b hb; simp only [List.mem_singleton] at hb; subst hb; exact ⟨_, _, _, _, _, he⟩
  | step he _ ih => intro b hb; rcases List.mem_cons.mp hb with rfl | hb; exact ⟨_, _, _, _, _, he⟩; exact ih b hb

def takes (g : Int) (k : Nat) : Bool := [0, 1, (k : Int) + 1, if 4 < k then 6 else 0].any fun x => x == g
def runT : List Int → Nat → List (List Dat) × Nat
  | [], k => ([], k)
  | g :: r, k => if takes g (runT r k).2 then ((runT r k).1 ++ [rowOf g (runT r k).2], ((((runT r k).2 : Int) + g + 1) % 9).toNat) else runT r k
theorem runT_lt : ∀ (l : List Int) (k : Nat), k < 9 → (runT l k).2 < 9
  | [], k, h => h
  | g :: r, k, h => by
    have := runT_lt r k h
    unfold runT
    split
    · show ((((runT r k).2 : Int) + g + 1) % 9).toNat < 9
      omega
    · exact this
def RowsAt (h0 h' : Heap) : List Addr → List (List Dat) → Prop
  | [], [] => True
  | a :: as, r :: rs => (∃ rv, h'.get? a = some (listOf rv.toArray 0) ∧ DatAll [] rv r ∧ New h0 a) ∧ RowsAt h0 h' as rs
  | _, _ => False
theorem RowsAt.move {h0 h0' h h' : Heap} : ∀ {as : List Addr} {rs : List (List Dat)}, RowsAt h0 h as rs → (∀ a rv, h.get? a = some (listOf rv 0) → New h0 a → h'.get? a = some (listOf rv 0) ∧ New h0' a) → RowsAt h0' h' as rs
  | [], [], _, _ => trivial
  | a :: as, r :: rs, ⟨⟨rv, h1, h2, h3⟩, x⟩, k => ⟨⟨rv, (k a _ h1 h3).1, h2, (k a _ h1 h3).2⟩, RowsAt.move x k⟩
  | [], _ :: _, x, _ => x.elim
  | _ :: _, [], x, _ => x.elim
theorem RowsAt.push {h0 h : Heap} {a : Addr} {rv : List Value} {r : List Dat} (h1 : h.get? a = some (listOf rv.toArray 0)) (h2 : DatAll [] rv r) (h3 : New h0 a) : ∀ {as : List Addr} {rs : List (List Dat)}, RowsAt h0 h as rs → RowsAt h0 h (as ++ [a]) (rs ++ [r])
  | [], [], _ => ⟨⟨rv, h1, h2, h3⟩, trivial⟩
  | _ :: _, _ :: _, ⟨y, x⟩ => ⟨y, RowsAt.push h1 h2 h3 x⟩
  | [], _ :: _, x => x.elim
  | _ :: _, [], x => x.elim
theorem RowsAt.length {h0 h : Heap} : ∀ {as : List Addr} {rs : List (List Dat)}, RowsAt h0 h as rs → as.length = rs.length
  | [], [], _ => rfl
  | _ :: _, _ :: _, ⟨_, x⟩ => by simp [RowsAt.length x]
  | [], _ :: _, x => x.elim
  | _ :: _, [], x => x.elim
theorem runT_len : ∀ (l : List Int) (k : Nat), (runT l k).1.length ≤ l.length
  | [], k => Nat.le_refl _
  | g :: r, k => by
    have := runT_len r k
    unfold runT
    split
    · simp; omega
    · simp; omega

def Thru (base : Heap) (l : List Env) (s : Shared) (q : Addr) (its : List Value) (gs : List Int) (k : Nat) (R : Result → Shared → Prop) : Prop :=
  ∀ h' e' d' t' tb' ctx' rs n' tk' r, Kept (l.filterMap (·.frame)) [q] s.heap h' → base.StaysIn h' → h'.get? q = some (listOf (its ++ rs.map Value.ref).toArray n') → RowsAt s.heap h' rs (runT gs k).1 →
    ErrAt (runT gs k).2 h' e' d' t' tb' ctx' → Fly base h' e' tb' .none → Ctxs h' e' r → (e' :: r).Nodup → New s.heap e' → New s.heap d' → New s.heap t' → base.get? e' = none ∧ base.get? d' = none ∧ base.get? t' = none → R (.error (.ref e')) { s with heap := h', toks := tk' }

def isFn (K : Frag) (a : Addr) : Bool := match K.lookup a with
  | some o => (match o.data with | .func _ => true | _ => false)
  | none => false
theorem of_isFn {K : Frag} {a : Addr} (h : isFn K a = true) : ∃ o fd, K.lookup a = some o ∧ o.data = .func fd := by
  unfold isFn at h
  split at h
  · rename_i o ho
    split at h
    · rename_i fd hfd; exact ⟨o, fd, ho, hfd⟩
    · cases h
  · cases h
section
variable {prog : Program} {w : World} {A : Around} {E : Value → Shared → Prop} {K : Frag} {s : Shared} {base : Heap} {l : List Env} {p : Program} {loose : List Str} {mg mb : Str → Option Value} {name : Str} {scope : Scope} {L a : Addr} {cd : Value} {m : Str → Option Value} {Q : Flow → Shared → Prop}
/-- a def is called with three names, and raises; a frame with cells -/
theorem call3X {cl : List (Str × Addr)} {f x y z : Str} {fa : Addr} {va vb vc : Value} {p1 p2 p3 p4 p5 p6 : Pos} (F : Fr base L s.heap m) (X : K.In base) (T : TopRead p loose mg mb base) (hf : nsIn K mainGlobals f = some (some (.ref fa))) (hfn : isFn K fa = true)
    (h1 : m x = some va) (h2 : m y = some vb) (h3 : m z = some vc)
    (h : codeAny (model prog w) A (.call (.ref fa) ⟨[va, vb, vc], []⟩) (fun r s' => ∃ e, r = .error e ∧ E e s') s)
    (hk : scope.kind = .function) (kf : (envX name scope L a cd cl).kindOf f = some .globalImplicit) (kx : (envX name scope L a cd cl).kindOf x = some .local) (ky : (envX name scope L a cd cl).kindOf y = some .local) (kz : (envX name scope L a cd cl).kindOf z = some .local)
    (df : (f == ("__debug__" : Str)) = false) (dx : (x == ("__debug__" : Str)) = false) (dy : (y == ("__debug__" : Str)) = false) (dz : (z == ("__debug__" : Str)) = false)
    (hi : interactive (envX name scope L a cd cl) = false) (hs : swapsWith (.Call (.Name f p1) [.Name x p2, .Name y p3, .Name z p4] [] p5) none p6.line (envX name scope L a cd cl) = pure false) :
    wpAny (model prog w) A (execs [.Expr (.Call (.Name f p1) [.Name x p2, .Name y p3, .Name z p4] [] p5) p6] (envX name scope L a cd cl)) Q E s := by
  obtain ⟨o, fd, ho, hfd⟩ := of_isFn hfn
  refine wpAny_execs_cons (wpAny_Expr_any (Call_ (nameX_K F X T hf ?_ hk kf df)) hi hs)
  refine callWith_def hfd (args_cons (nameX_L F h1 ?_ hk kx dx))
  refine args_cons (nameX_L F h2 ?_ hk ky dy)
  refine args_cons (nameX_L F h3 ?_ hk kz dz)
  refine args_nil ⟨F.keep _ _ (X _ _ ho), ?_⟩
  refine wpAny_call (codeAny_mono h fun r s' hr => ?_)
  obtain ⟨e, rfl, hE⟩ := hr
  exact hE
/-- a def is called with three names, and raises -/
theorem call3 {f x y z : Str} {fa : Addr} {va vb vc : Value} {p1 p2 p3 p4 p5 p6 : Pos} (F : Fr base L s.heap m) (X : K.In base) (T : TopRead p loose mg mb base) (hf : nsIn K mainGlobals f = some (some (.ref fa))) (hfn : isFn K fa = true)
    (h1 : m x = some va) (h2 : m y = some vb) (h3 : m z = some vc)
    (h : codeAny (model prog w) A (.call (.ref fa) ⟨[va, vb, vc], []⟩) (fun r s' => ∃ e, r = .error e ∧ E e s') s)
    (hk : scope.kind = .function) (kf : (envOf name scope L a cd).kindOf f = some .globalImplicit) (kx : (envOf name scope L a cd).kindOf x = some .local) (ky : (envOf name scope L a cd).kindOf y = some .local) (kz : (envOf name scope L a cd).kindOf z = some .local)
    (df : (f == ("__debug__" : Str)) = false) (dx : (x == ("__debug__" : Str)) = false) (dy : (y == ("__debug__" : Str)) = false) (dz : (z == ("__debug__" : Str)) = false)
    (hi : interactive (envOf name scope L a cd) = false) (hs : swapsWith (.Call (.Name f p1) [.Name x p2, .Name y p3, .Name z p4] [] p5) none p6.line (envOf name scope L a cd) = pure false) :
    wpAny (model prog w) A (execs [.Expr (.Call (.Name f p1) [.Name x p2, .Name y p3, .Name z p4] [] p5) p6] (envOf name scope L a cd)) Q E s :=
  call3X (cl := []) F X T hf hfn h1 h2 h3 h hk kf kx ky kz df dx dy dz hi hs
end
end Mine

end
section -- L2j
set_option maxRecDepth 100000
set_option maxHeartbeats 1000000
set_option linter.unusedVariables false
namespace Mine
open PySem PySem.W PyProof.Rows
section
variable {prog : Program} {w : World} {s s₀ : Shared} {base : Heap} {l : List Env} {loose : List Str} {mean : ExcName → Option Value} {mg mb : Str → Option Value} {name : Str} {scope : Scope} {L a : Addr} {cd : Value} {m : Str → Option Value} {Q : Flow → Shared → Prop} {dp un : Nat} {gs : Option (List Code)}
  {k : Nat} {g : Int} {gr : List Int} {q I : Addr} {its : List Value} {n : Nat} {kt gt : Tok} {R : Result → Shared → Prop} {x : Str} {c : Value} {np pos hp p1 p2 p3 p4 p5 p6 r1 r2 r3 r4 r5 r6 : Pos}
/-- one guard around the rest -/
theorem guard_try (hk : k < 9) (hg : 0 ≤ g ∧ g ≤ 12) (hdp : dp ≤ 700) (X : (hd.heap_39 w.params).In base) (T : Top hd.view_39 loose mean mg mb base)
    (hst : base.StaysIn s.heap) (hff : s.heap.FunFrames base (envOf name scope L a cd :: l)) (hns : s.heap.Ns L m) (hLb : base.objs.size ≤ L)
    (m1 : m "inner" = some (.ref I)) (m2 : m "kind" = some (.int k kt)) (m3 : m "told" = some (.ref q)) (m4 : m "guard" = some (.int g gt))
    (hq : s.heap.get? q = some (listOf its.toArray n)) (hqb : base.get? q = none) (hqf : q ∉ (envOf name scope L a cd :: l).filterMap (·.frame)) (hz : its.length + gr.length ≤ 90)
    (IH : ∀ R, Thru base (envOf name scope L a cd :: l) s q its gr k R → codeAny (model prog w) (Around.deeper ⟨none, dp, some l, gs, un⟩ (envOf name scope L a cd)) (.call (.ref 210) ⟨[.ref I, .int k kt, .ref q], []⟩) R s)
    (hm : ∀ k, k < 9 → exmOne (hd.heap_39 w.params) (.ref (clsOf k)) c = some (takes g k)) (hn : KtsName (hd.heap_39 w.params) x c)
    (hff0 : s₀.heap.FunFrames base l) (hS : ∀ b o, s₀.heap.get? b = some o → s.heap.get? b = some o) (hLn : s₀.heap.get? L = none) (hs0 : ∀ h t, { s with heap := h, toks := t } = { s₀ with heap := h, toks := t })
    (h : Thru base l s₀ q its (g :: gr) k R)
    (hkd : scope.kind = .function) (ka : (envOf name scope L a cd).kindOf "_law_through" = some .globalImplicit) (kb : (envOf name scope L a cd).kindOf "_law_on" = some .globalImplicit) (kc : (envOf name scope L a cd).kindOf "inner" = some .local) (kd : (envOf name scope L a cd).kindOf "kind" = some .local)
    (ke : (envOf name scope L a cd).kindOf "told" = some .local) (kf : (envOf name scope L a cd).kindOf "guard" = some .local) (kg : (envOf name scope L a cd).kindOf "caught" = some .local) (kx : (envOf name scope L a cd).kindOf x = some .globalImplicit) (dx : (x == ("__debug__" : Str)) = false)
    (hi : interactive (envOf name scope L a cd) = false)
    (hs1 : swapsWith (.Call (.Name "_law_through" p1) [.Name "inner" p2, .Name "kind" p3, .Name "told" p4] [] p5) none p6.line (envOf name scope L a cd) = pure false)
    (hs2 : swapsWith (.Call (.Name "_law_on" r1) [.Name "caught" r2, .Name "guard" r3, .Name "told" r4] [] r5) none r6.line (envOf name scope L a cd) = pure false) :
    wpAny (model prog w) (Around.deeper ⟨none, dp, some l, gs, un⟩ (envOf name scope L a cd))
      (exec (.Try [.Expr (.Call (.Name "_law_through" p1) [.Name "inner" p2, .Name "kind" p3, .Name "told" p4] [] p5) p6] [.ExceptHandler (some (.Name x np)) (some "caught") [.Expr (.Call (.Name "_law_on" r1) [.Name "caught" r2, .Name "guard" r3, .Name "told" r4] [] r5) r6] hp] [] [] pos) (envOf name scope L a cd))
      Q (fun e s' => wpAny (model prog w) (Around.deeper ⟨none, dp, some l, gs, un⟩ (envOf name scope L a cd)) (leaving (envOf name scope L a cd) e) (fun _ s'' => R (.error e) s'') (fun e' s'' => R (.error e') s'') s') s := by
  have hfr : (Around.deeper ⟨none, dp, some l, gs, un⟩ (envOf name scope L a cd)).frames = some (envOf name scope L a cd :: l) := rfl
  have memL : L ∈ (envOf name scope L a cd :: l).filterMap (·.frame) := .head _
  have hqL : L ≠ q := fun z => hqf (z ▸ memL)
  have fsub : ∀ b ∈ (envOf name scope L a cd :: l).filterMap (·.frame), b ∈ l.filterMap (·.frame) ∨ New s₀.heap b := fun b hb => by
    rcases List.mem_cons.mp hb with z | z
    · exact .inr (.of_none (by rw [z]; exact hLn))
    · exact .inl z
  have hbL : base.get? L = none := Heap.get?_none_of_le hLb
  refine wpAny_Try_except ?_
  refine call3 (fa := 210) ⟨hns, hst, hLb⟩ X (topRead_of T) (by kernel_rfl) (by kernel_rfl) m1 m2 m3 ?_ hkd ka kc kd ke (by decide) (by decide) (by decide) (by decide) hi hs1
  refine IH _ ?_
  intro h' e' d' t' tb' ctx' rs n' tk' r K1 st1 q1 rows1 err1 fly1 ctx1 nd1 Ne Nd Nt Nb
  refine ⟨_, rfl, ?_⟩
  have hk1 := runT_lt gr k hk
  have hlen := runT_len gr k
  generalize hk1d : (runT gr k).2 = k1 at hk1 err1
  have ff1 : h'.FunFrames base (envOf name scope L a cd :: l) := K1.funFrames hff fun b hb z => hqf (by rw [List.mem_singleton.mp z] at hb; exact hb)
  have ns1 : h'.Ns L m := K1.ns hns (by simp [hqL])
  have ef1 := Ne.frames hff
  have df1 := Nd.frames hff
  have tf1 := Nt.frames hff
  have eL : L ≠ e' := fun z => ef1 (z ▸ memL)
  have de : d' ≠ e' := fun z => by obtain ⟨es, n, hd, _⟩ := err1.di; rw [z, err1.ex] at hd; cases hd
  have te : t' ≠ e' := fun z => by obtain ⟨es, n, hd, _⟩ := err1.tu; rw [z, err1.ex] at hd; cases hd
  have qe : q ≠ e' := fun z => by rw [z, err1.ex] at q1; cases q1
  have rne : ∀ b ∈ r, b ≠ e' := fun b hb z => (List.nodup_cons.mp nd1).1 (z ▸ hb)
  have ne0 : ∀ {b}, New s.heap b → New s₀.heap b := fun N => N.keeps hS
  cases htk : takes g k1 with
  | false =>
    have hrun : runT (g :: gr) k = runT gr k := by rw [runT, hk1d, htk]; rfl
    refine try_miss (s := { s with heap := h', toks := tk' }) hfr ff1 err1.ex fly1 st1 Nb.1 ns1 hLb X (topRead_of T) hn (htk ▸ hm k1 hk1) eL (fun h2 tb2 a1 a2 a3 a4 => ?_) hkd kx dx
    refine leave_again (s := { s with heap := h2, toks := tk' }) rfl a1 a2 a4 ((envOf name scope L a cd :: l).filterMap (·.frame)) fun h3 b1 b2 b3 b4 => ?_
    have K3 := a3.trans b3
    show R _ ({ s with heap := h3, toks := tk' } : Shared)
    rw [hs0 h3 tk']
    refine h h3 e' d' t' tb2 ctx' rs n' tk' r ?_ b4 ?_ ?_ ?_ b2 ?_ nd1 (ne0 Ne) (ne0 Nd) (ne0 Nt) Nb
    · have KK : Kept ((envOf name scope L a cd :: l).filterMap (·.frame)) [q, e'] s.heap h3 := (K1.mono (fun _ z => z) (by simp)).trans (K3.mono (fun _ z => z) (by simp))
      refine Kept.oldN ((Kept.of_keeps hS).trans KK) fsub fun b hb => ?_
      simp only [List.mem_cons, List.not_mem_nil, or_false] at hb
      rcases hb with rfl | rfl
      · exact .inl (.head _)
      · exact .inr (ne0 Ne)
    · exact K3.get q1 (by simp [qe]) notTbL hqf
    · rw [hrun]
      refine rows1.move fun b rv hb Nb' => ⟨K3.get hb ?_ notTbL (Nb'.frames hff), ne0 Nb'⟩
      intro z; rw [List.mem_singleton.mp z, err1.ex] at hb; cases hb
    · rw [hrun, hk1d]
      exact err1.kept K3 b1 (by simp [de]) (by simp [te]) df1 tf1
    · exact ctx1.keptTb K3 ff1 (fun b hb => by simp [rne b hb]) err1.ex b1
  | true =>
    have hrun : runT (g :: gr) k = ((runT gr k).1 ++ [rowOf g k1], (((k1 : Int) + g + 1) % 9).toNat) := by rw [runT, hk1d, htk]; rfl
    refine try_hit (s := { s with heap := h', toks := tk' }) hfr ff1 err1.ex fly1 st1 Nb.1 ns1 hLb X (topRead_of T) hn (htk ▸ hm k1 hk1) eL (fun h2 tb2 a1 a2 a3 a4 a5 => ?_) hkd kx kg dx
    have lL : ∀ b ∈ l.filterMap (·.frame), b ≠ L := fun b hb z => by
      obtain ⟨_, o, ho, _⟩ := hff0.mem hb
      rw [z, hLn] at ho; cases ho
    have ff2 : h2.FunFrames base (envOf name scope L a cd :: l) :=
      .cons (by show scope.kind ≠ .module; rw [hkd]; decide) rfl a5 hbL (Kept.funFrames a3 ff1.2.2 fun b hb z => by
        simp only [List.mem_cons, List.not_mem_nil, or_false] at z
        rcases z with z | z
        · exact ef1 (z ▸ .tail _ hb)
        · exact lL b hb z)
    have err2 : ErrAt k1 h2 e' d' t' tb2 ctx' := err1.kept a3 a1 (by simp [de]; exact fun z => df1 (z ▸ memL)) (by simp [te]; exact fun z => tf1 (z ▸ memL)) df1 tf1
    have hq2 : h2.get? q = some (listOf (its ++ rs.map Value.ref).toArray n') := a3.get q1 (by simp [qe]; exact fun z => hqL z.symm) notTbL hqf
    have cx2 : Ctxs h2 e' r := ctx1.keptTb a3 ff1 (fun b hb z => by
        simp only [List.mem_cons, List.not_mem_nil, or_false] at z
        rcases z with z | z
        · exact rne b hb z
        · obtain ⟨_, _, _, _, _, hx⟩ := ctx1.exc b (.tail _ hb)
          exact exc_notFrame hx ff1 (z ▸ memL)) err1.ex a1
    refine call3 (s := { s with heap := h2, toks := tk' + 1 }) (fa := 203) ⟨a5, a4, hLb⟩ X (topRead_of T) (by kernel_rfl) (by kernel_rfl) (va := .ref e') (vb := .int g gt) (vc := .ref q) (if_pos rfl) (by rw [if_neg (by decide)]; exact m4) (by rw [if_neg (by decide)]; exact m3) ?_ hkd kb kg kf ke (by decide) (by decide) (by decide) (by decide) hi hs2
    obtain ⟨es, ne, hd2, mv, hmsg, hmv⟩ := err2.di
    obtain ⟨tk0, vs, ht2, hvs⟩ := err2.tu
    refine on_code (hd0 := none) (dp := dp + 1) (l := envOf name scope L a cd :: l) (r := r) hk1 hg a4 ff2 X T (by omega) err2.ex hd2 hmsg ht2 hq2 ?_ hmv hvs ?_ cx2 nd1 ?_
    · rw [List.length_append, List.length_map, rows1.length]; omega
    · intro b hb
      simp only [List.mem_cons, List.not_mem_nil, or_false] at hb
      rcases hb with rfl | rfl | rfl | rfl
      · exact ⟨hqb, hqf⟩
      · exact ⟨Nb.1, ef1⟩
      · exact ⟨Nb.2.1, df1⟩
      · exact ⟨Nb.2.2, tf1⟩
    · intro h3 e3 d3 t3 tb3 row rv n3 tk3 K3 st3 q3 row3 rv3 rown err3 fly3 f1 f2 f3
      refine ⟨_, rfl, ?_⟩
      have qfr : ∀ b ∈ (envOf name scope L a cd :: l).filterMap (·.frame), b ∉ [q] := fun b hb z => hqf (by rw [List.mem_singleton.mp z] at hb; exact hb)
      have ff3 : h3.FunFrames base (envOf name scope L a cd :: l) := K3.funFrames ff2 qfr
      have ns3 := K3.ns a5 (by simp [hqL])
      have n2 : ∀ {b}, h2.get? b = none → New s.heap b := fun {b} hb => by
        have N2 : New h2 b := .of_none hb
        have b1 : b ∉ [e', L] := fun z => by
          simp only [List.mem_cons, List.not_mem_nil, or_false] at z
          rcases z with z | z
          · exact N2.ne a1 notTbE z
          · exact N2.frames ff2 (z ▸ memL)
        exact (N2.back a3 b1).back K1 fun z => N2.ne hq2 notTbL (List.mem_singleton.mp z)
      have b3e : base.get? e3 = none := by
        cases z : base.get? e3 with
        | none => rfl
        | some o => have := a4 _ _ z; rw [f1] at this; cases this
      have b3d : base.get? d3 = none := by
        cases z : base.get? d3 with
        | none => rfl
        | some o => have := a4 _ _ z; rw [f2] at this; cases this
      have b3t : base.get? t3 = none := by
        cases z : base.get? t3 with
        | none => rfl
        | some o => have := a4 _ _ z; rw [f3] at this; cases this
      have e3f := (New.of_none f1).frames ff2
      have d3f := (New.of_none f2).frames ff2
      have t3f := (New.of_none f3).frames ff2
      have L3 : L ≠ e3 := fun z => e3f (z ▸ memL)
      have d3e : d3 ≠ e3 := fun z => by obtain ⟨es, n, hd, _⟩ := err3.di; rw [z, err3.ex] at hd; cases hd
      have t3e : t3 ≠ e3 := fun z => by obtain ⟨es, n, hd, _⟩ := err3.tu; rw [z, err3.ex] at hd; cases hd
      have q3e : q ≠ e3 := fun z => by rw [z, err3.ex] at q3; cases q3
      have cx3 : Ctxs h3 e' r := cx2.kept K3 ff2 fun b hb z => cx2.cls hq2 (by rw [List.mem_singleton.mp z] at hb; exact hb)
      refine try_reraise (s := { s with heap := h3, toks := tk3 }) hfr ff3 err3.ex fly3 st3 b3e ns3 hLb L3 (fun h4 tb4 tk4 c1 c2 c3 c4 c5 => ?_) hkd kg
      refine leave_again (s := { s with heap := h4, toks := tk4 }) rfl c1 c2 c4 ((envOf name scope L a cd :: l).filterMap (·.frame)) fun h5 u1 u2 u3 u4 => ?_
      have up : ∀ {h h' : Heap}, Kept ((envOf name scope L a cd :: l).filterMap (·.frame)) [e3] h h' → Kept ((envOf name scope L a cd :: l).filterMap (·.frame)) [e3, L] h h' := fun k => k.mono (fun _ q => q) (fun _ q => List.mem_cons.mpr (.inl (List.mem_singleton.mp q)))
      have K5 := c3.trans (up u3)
      show R _ ({ s with heap := h5, toks := tk4 } : Shared)
      rw [hs0 h5 tk4]
      refine h h5 e3 d3 t3 tb4 (.ref e') (rs ++ [row]) n3 tk4 (e' :: r) ?_ u4 ?_ ?_ ?_ u2 ?_ ?_ (ne0 (n2 f1)) (ne0 (n2 f2)) (ne0 (n2 f3)) ⟨b3e, b3d, b3t⟩
      · have KK : Kept ((envOf name scope L a cd :: l).filterMap (·.frame)) [q, e', L, e3] s.heap h5 :=
          (((K1.mono (fun _ z => z) (by simp)).trans (a3.mono (fun _ z => z) (by simp))).trans (K3.mono (fun _ z => z) (by simp))).trans (K5.mono (fun _ z => z) (by simp))
        refine Kept.oldN ((Kept.of_keeps hS).trans KK) fsub fun b hb => ?_
        simp only [List.mem_cons, List.not_mem_nil, or_false] at hb
        rcases hb with rfl | rfl | rfl | rfl
        · exact .inl (.head _)
        · exact .inr (ne0 Ne)
        · exact .inr (.of_none hLn)
        · exact .inr (ne0 (n2 f1))
      · rw [List.map_append, ← List.append_assoc]
        exact K5.get q3 (by simp [q3e]; exact fun z => hqL z.symm) notTbL hqf
      · rw [hrun]
        have rowf := (New.of_none rown).frames ff2
        have hr5 : h5.get? row = some (listOf rv.toArray 0) := K5.get row3 (fun z => by
          simp only [List.mem_cons, List.not_mem_nil, or_false] at z
          rcases z with z | z
          · rw [z, err3.ex] at row3; cases row3
          · exact rowf (z ▸ memL)) notTbL rowf
        refine RowsAt.push hr5 rv3 (ne0 (n2 rown)) (rows1.move fun b rv hb Nb' => ?_)
        have bf := Nb'.frames hff
        have bL : b ≠ L := fun z => bf (z ▸ memL)
        have be : b ≠ e' := fun z => by rw [z, err1.ex] at hb; cases hb
        have hb2 := a3.get hb (by simp [be, bL]) notTbL bf
        have hb3 := K3.get hb2 (fun z => Nb'.ne hq notTbL (List.mem_singleton.mp z)) notTbL bf
        exact ⟨K5.get hb3 (fun z => by
          simp only [List.mem_cons, List.not_mem_nil, or_false] at z
          rcases z with z | z
          · rw [z, err3.ex] at hb3; cases hb3
          · exact bL z) notTbL bf, ne0 Nb'⟩
      · rw [hrun]
        exact err3.kept K5 u1 (by simp [d3e]; exact fun z => d3f (z ▸ memL)) (by simp [t3e]; exact fun z => t3f (z ▸ memL)) d3f t3f
      · refine Ctxs.step u1 (cx3.kept K5 ff3 fun b hb z => ?_)
        obtain ⟨_, _, _, _, _, hx⟩ := cx3.exc b hb
        simp only [List.mem_cons, List.not_mem_nil, or_false] at z
        rcases z with z | z
        · obtain ⟨_, _, _, _, _, hx2⟩ := cx2.exc b hb
          rw [z, f1] at hx2; cases hx2
        · exact exc_notFrame hx ff3 (z ▸ memL)
      · refine List.nodup_cons.mpr ⟨fun z => ?_, nd1⟩
        obtain ⟨_, _, _, _, _, hx2⟩ := cx2.exc e3 z
        rw [f1] at hx2; cases hx2
end
end Mine

end
section -- L2l
set_option maxRecDepth 100000
set_option maxHeartbeats 1000000
set_option linter.unusedVariables false
namespace Mine
open PySem PySem.W PyProof.Rows
def ThruP (prog : Program) (w : World) (gl : List Int) : Prop := ∀ {base : Heap} {l : List Env} {mg mb : Str → Option Value} {loose : List Str} {mean : ExcName → Option Value} {s : Shared} {kt : Tok} {R : Result → Shared → Prop} {dp un : Nat} {gs : Option (List Code)} {k : Nat} {G q : Addr} {its gv : List Value} {n nG : Nat},
  k < 9 → (∀ g ∈ gl, 0 ≤ g ∧ g ≤ 12) → DatAll [] gv (gl.map Dat.int) → base.StaysIn s.heap → s.heap.FunFrames base l → (hd.heap_39 w.params).In base → Top hd.view_39 loose mean mg mb base → dp + 10 * gl.length ≤ 700 → un + 10 * gl.length ≤ 8000 → base.objs.size ≤ s.heap.objs.size →
  s.heap.get? q = some (listOf its.toArray n) → s.heap.get? G = some (listOf gv.toArray nG) → its.length + gl.length ≤ 90 → @Ne Nat q G → (∀ b ∈ [q, G], base.get? b = none ∧ b ∉ l.filterMap (·.frame)) → Thru base l s q its gl k R →
  codeAny (model prog w) ⟨none, dp, some l, gs, un⟩ (.call (.ref 210) ⟨[.ref G, .int k kt, .ref q], []⟩) R s
section
variable {prog : Program} {w : World} {s₀ : Shared} {base g' hh : Heap} {l : List Env} {loose : List Str} {mean : ExcName → Option Value} {mg mb : Str → Option Value} {name : Str} {scope : Scope} {L a : Addr} {cd : Value} {m : Str → Option Value} {Q : Flow → Shared → Prop} {dp un tk : Nat} {gs : Option (List Code)}
  {k : Nat} {g : Int} {gr : List Int} {q D G e0 : Addr} {its gv : List Value} {n : Nat} {kt gt : Tok} {R : Result → Shared → Prop} {x : Str} {c : Value} {np pos hp p1 p2 p3 p4 p5 p6 r1 r2 r3 r4 r5 r6 : Pos} {oG oE : Obj}
theorem guard_K (IH : ThruP prog w gr) (hk : k < 9) (hg : 0 ≤ g ∧ g ≤ 12) (hgr : ∀ g ∈ gr, 0 ≤ g ∧ g ≤ 12) (hgv : DatAll [] gv (gr.map Dat.int)) (hdp : dp + 10 * (g :: gr).length ≤ 700) (hun : un + 10 * (g :: gr).length ≤ 8000) (X : (hd.heap_39 w.params).In base) (T : Top hd.view_39 loose mean mg mb base)
    (hff0 : s₀.heap.FunFrames base l) (hbs : base.objs.size ≤ s₀.heap.objs.size) (hz : its.length + (g :: gr).length ≤ 90)
    (hq0 : s₀.heap.get? q = some (listOf its.toArray n)) (hG0 : s₀.heap.get? G = some oG) (nb : ∀ b ∈ [q, G], base.get? b = none ∧ b ∉ l.filterMap (·.frame))
    (B : Below ⟨none, dp, some l, gs, un⟩ base l g') (F : Fr g' s₀.heap.objs.size hh m) (N : News g' s₀.heap.objs.size hh [(D, listOf gv.toArray 0), (e0, oE), (q, listOf its.toArray n), (G, oG)]) (l1 : e0 < D ∧ q < D ∧ G < D)
    (hin : ∀ b o, s₀.heap.get? b = some o → b ∉ [(q, listOf its.toArray n), (G, oG)].map (·.1) → g'.get? b = some o) (h : Thru base l s₀ q its (g :: gr) k R)
    (hm : ∀ k, k < 9 → exmOne (hd.heap_39 w.params) (.ref (clsOf k)) c = some (takes g k)) (hn : KtsName (hd.heap_39 w.params) x c)
    (m1 : m "inner" = some (.ref D)) (m2 : m "kind" = some (.int k kt)) (m3 : m "told" = some (.ref q)) (m4 : m "guard" = some (.int g gt))
    (hkd : scope.kind = .function) (ka : (envOf name scope s₀.heap.objs.size a cd).kindOf "_law_through" = some .globalImplicit) (kb : (envOf name scope s₀.heap.objs.size a cd).kindOf "_law_on" = some .globalImplicit) (kc : (envOf name scope s₀.heap.objs.size a cd).kindOf "inner" = some .local) (kd : (envOf name scope s₀.heap.objs.size a cd).kindOf "kind" = some .local)
    (ke : (envOf name scope s₀.heap.objs.size a cd).kindOf "told" = some .local) (kf : (envOf name scope s₀.heap.objs.size a cd).kindOf "guard" = some .local) (kg : (envOf name scope s₀.heap.objs.size a cd).kindOf "caught" = some .local) (kx : (envOf name scope s₀.heap.objs.size a cd).kindOf x = some .globalImplicit) (dx : (x == ("__debug__" : Str)) = false)
    (hi : interactive (envOf name scope s₀.heap.objs.size a cd) = false)
    (hs1 : swapsWith (.Call (.Name "_law_through" p1) [.Name "inner" p2, .Name "kind" p3, .Name "told" p4] [] p5) none p6.line (envOf name scope s₀.heap.objs.size a cd) = pure false)
    (hs2 : swapsWith (.Call (.Name "_law_on" r1) [.Name "caught" r2, .Name "guard" r3, .Name "told" r4] [] r5) none r6.line (envOf name scope s₀.heap.objs.size a cd) = pure false) :
    wpAny (model prog w) (Around.deeper ⟨none, dp, some l, gs, un⟩ (envOf name scope s₀.heap.objs.size a cd))
      (exec (.Try [.Expr (.Call (.Name "_law_through" p1) [.Name "inner" p2, .Name "kind" p3, .Name "told" p4] [] p5) p6] [.ExceptHandler (some (.Name x np)) (some "caught") [.Expr (.Call (.Name "_law_on" r1) [.Name "caught" r2, .Name "guard" r3, .Name "told" r4] [] r5) r6] hp] [] [] pos) (envOf name scope s₀.heap.objs.size a cd))
      Q (fun e s' => wpAny (model prog w) (Around.deeper ⟨none, dp, some l, gs, un⟩ (envOf name scope s₀.heap.objs.size a cd)) (leaving (envOf name scope s₀.heap.objs.size a cd) e) (fun _ s'' => R (.error e) s'') (fun e' s'' => R (.error e') s'') s') { s₀ with heap := hh, toks := tk } := by
  have BB : Below (Around.deeper ⟨none, dp, some l, gs, un⟩ (envOf name scope s₀.heap.objs.size a cd)) base (envOf name scope s₀.heap.objs.size a cd :: l) hh := B.push F hkd
  have gD := N _ (.head _)
  have gq := N _ (.tail _ (.tail _ (.head _)))
  have gG := N _ (.tail _ (.tail _ (.tail _ (.head _))))
  have hqf : q ∉ (envOf name scope s₀.heap.objs.size a cd :: l).filterMap (·.frame) := fun z => by
    rcases List.mem_cons.mp z with z | z
    · exact gq.2.1 z
    · exact (nb q (by simp)).2 z
  have hDf : D ∉ (envOf name scope s₀.heap.objs.size a cd :: l).filterMap (·.frame) := fun z => by
    rcases List.mem_cons.mp z with z | z
    · exact gD.2.1 z
    · obtain ⟨_, o, ho, _⟩ := B.frames.mem z
      have := gD.2.2; simp only at this; rw [this] at ho; cases ho
  have hDb : base.get? D = none := by
    cases z : base.get? D with
    | none => rfl
    | some o => have h1 := B.stays _ _ z; have := gD.2.2; simp only at this; rw [this] at h1; cases h1
  have hS : ∀ b o, s₀.heap.get? b = some o → hh.get? b = some o := fun b o hb => by
    by_cases z1 : b = q
    · rw [z1] at hb ⊢; rw [hq0] at hb; rw [← hb]; exact gq.1
    by_cases z2 : b = G
    · rw [z2] at hb ⊢; rw [hG0] at hb; rw [← hb]; exact gG.1
    exact F.keep b o (hin b o hb (by simp only [List.map_cons, List.map_nil, List.mem_cons, List.not_mem_nil, or_false, not_or]; exact ⟨z1, z2⟩))
  have hLs : s₀.heap.objs.size < hh.objs.size := by obtain ⟨o, _, _, ho, _⟩ := F.ns; exact Heap.lt_size ho
  have hl1 : (g :: gr).length = gr.length + 1 := rfl
  refine guard_try (s₀ := s₀) (s := { s₀ with heap := hh, toks := tk }) (I := D) hk hg (by omega) X T BB.stays BB.frames F.ns hbs m1 m2 m3 m4 gq.1 (nb q (by simp)).1 hqf (by omega) ?_ hm hn hff0 hS (Heap.get?_none_of_le (Nat.le_refl _)) (fun _ _ => rfl) h hkd ka kb kc kd ke kf kg kx dx hi hs1 hs2
  intro R' hR'
  refine IH (s := { s₀ with heap := hh, toks := tk }) (dp := dp + 1) (un := un + 3) (l := envOf name scope s₀.heap.objs.size a cd :: l) hk hgr hgv BB.stays BB.frames X T (by omega) (by omega) (by show base.objs.size ≤ hh.objs.size; omega) gq.1 gD.1 (by omega) (Nat.ne_of_lt l1.2.1) ?_ hR'
  intro b hb
  simp only [List.mem_cons, List.not_mem_nil, or_false] at hb
  rcases hb with rfl | rfl
  · exact ⟨(nb _ (by simp)).1, hqf⟩
  · exact ⟨hDb, hDf⟩
end
theorem tabE (P : Params) (c : Value) (g : Int) (h0 : exmOne (hd.heap_39 P) (.ref 39) c = some (takes g 0)) (h1 : exmOne (hd.heap_39 P) (.ref 59) c = some (takes g 1)) (h2 : exmOne (hd.heap_39 P) (.ref 79) c = some (takes g 2)) (h3 : exmOne (hd.heap_39 P) (.ref 99) c = some (takes g 3)) (h4 : exmOne (hd.heap_39 P) (.ref 118) c = some (takes g 4))
    (h5 : exmOne (hd.heap_39 P) (.ref 137) c = some (takes g 5)) (h6 : exmOne (hd.heap_39 P) (.ref 168) c = some (takes g 6)) (h7 : exmOne (hd.heap_39 P) (.ref 156) c = some (takes g 7)) (h8 : exmOne (hd.heap_39 P) (.ref 187) c = some (takes g 8)) : ∀ k, k < 9 → exmOne (hd.heap_39 P) (.ref (clsOf k)) c = some (takes g k)
  | 0, _ => h0 | 1, _ => h1 | 2, _ => h2 | 3, _ => h3 | 4, _ => h4 | 5, _ => h5 | 6, _ => h6 | 7, _ => h7 | 8, _ => h8
  | n + 9, h => absurd h (by omega)
end Mine
namespace Mine
open PySem PySem.W PyProof.Rows
theorem tab_0 (P : Params) : (∀ k, k < 9 → exmOne (hd.heap_39 P) (.ref (clsOf k)) (.type "Exception") = some (takes 0 k)) ∧ KtsName (hd.heap_39 P) "Exception" (.type "Exception") := ⟨tabE P _ _ (by kernel_rfl) (by kernel_rfl) (by kernel_rfl) (by kernel_rfl) (by kernel_rfl) (by kernel_rfl) (by kernel_rfl) (by kernel_rfl) (by kernel_rfl), .inr ⟨by kernel_rfl, by kernel_rfl, by decide⟩⟩
theorem tab_1 (P : Params) : (∀ k, k < 9 → exmOne (hd.heap_39 P) (.ref (clsOf k)) (.ref 39) = some (takes 1 k)) ∧ KtsName (hd.heap_39 P) "Error" (.ref 39) := ⟨tabE P _ _ (by kernel_rfl) (by kernel_rfl) (by kernel_rfl) (by kernel_rfl) (by kernel_rfl) (by kernel_rfl) (by kernel_rfl) (by kernel_rfl) (by kernel_rfl), .inl (by kernel_rfl)⟩
theorem tab_2 (P : Params) : (∀ k, k < 9 → exmOne (hd.heap_39 P) (.ref (clsOf k)) (.ref 59) = some (takes 2 k)) ∧ KtsName (hd.heap_39 P) "NoSectionError" (.ref 59) := ⟨tabE P _ _ (by kernel_rfl) (by kernel_rfl) (by kernel_rfl) (by kernel_rfl) (by kernel_rfl) (by kernel_rfl) (by kernel_rfl) (by kernel_rfl) (by kernel_rfl), .inl (by kernel_rfl)⟩
theorem tab_3 (P : Params) : (∀ k, k < 9 → exmOne (hd.heap_39 P) (.ref (clsOf k)) (.ref 79) = some (takes 3 k)) ∧ KtsName (hd.heap_39 P) "DuplicateSectionError" (.ref 79) := ⟨tabE P _ _ (by kernel_rfl) (by kernel_rfl) (by kernel_rfl) (by kernel_rfl) (by kernel_rfl) (by kernel_rfl) (by kernel_rfl) (by kernel_rfl) (by kernel_rfl), .inl (by kernel_rfl)⟩
theorem tab_4 (P : Params) : (∀ k, k < 9 → exmOne (hd.heap_39 P) (.ref (clsOf k)) (.ref 99) = some (takes 4 k)) ∧ KtsName (hd.heap_39 P) "DuplicateOptionError" (.ref 99) := ⟨tabE P _ _ (by kernel_rfl) (by kernel_rfl) (by kernel_rfl) (by kernel_rfl) (by kernel_rfl) (by kernel_rfl) (by kernel_rfl) (by kernel_rfl) (by kernel_rfl), .inl (by kernel_rfl)⟩
theorem tab_5 (P : Params) : (∀ k, k < 9 → exmOne (hd.heap_39 P) (.ref (clsOf k)) (.ref 118) = some (takes 5 k)) ∧ KtsName (hd.heap_39 P) "NoOptionError" (.ref 118) := ⟨tabE P _ _ (by kernel_rfl) (by kernel_rfl) (by kernel_rfl) (by kernel_rfl) (by kernel_rfl) (by kernel_rfl) (by kernel_rfl) (by kernel_rfl) (by kernel_rfl), .inl (by kernel_rfl)⟩
theorem tab_6 (P : Params) : (∀ k, k < 9 → exmOne (hd.heap_39 P) (.ref (clsOf k)) (.ref 137) = some (takes 6 k)) ∧ KtsName (hd.heap_39 P) "InterpolationError" (.ref 137) := ⟨tabE P _ _ (by kernel_rfl) (by kernel_rfl) (by kernel_rfl) (by kernel_rfl) (by kernel_rfl) (by kernel_rfl) (by kernel_rfl) (by kernel_rfl) (by kernel_rfl), .inl (by kernel_rfl)⟩
theorem tab_7 (P : Params) : (∀ k, k < 9 → exmOne (hd.heap_39 P) (.ref (clsOf k)) (.ref 168) = some (takes 7 k)) ∧ KtsName (hd.heap_39 P) "InterpolationSyntaxError" (.ref 168) := ⟨tabE P _ _ (by kernel_rfl) (by kernel_rfl) (by kernel_rfl) (by kernel_rfl) (by kernel_rfl) (by kernel_rfl) (by kernel_rfl) (by kernel_rfl) (by kernel_rfl), .inl (by kernel_rfl)⟩
theorem tab_8 (P : Params) : (∀ k, k < 9 → exmOne (hd.heap_39 P) (.ref (clsOf k)) (.ref 156) = some (takes 8 k)) ∧ KtsName (hd.heap_39 P) "InterpolationMissingOptionError" (.ref 156) := ⟨tabE P _ _ (by kernel_rfl) (by kernel_rfl) (by kernel_rfl) (by kernel_rfl) (by kernel_rfl) (by kernel_rfl) (by kernel_rfl) (by kernel_rfl) (by kernel_rfl), .inl (by kernel_rfl)⟩
theorem tab_9 (P : Params) : (∀ k, k < 9 → exmOne (hd.heap_39 P) (.ref (clsOf k)) (.ref 187) = some (takes 9 k)) ∧ KtsName (hd.heap_39 P) "InterpolationDepthError" (.ref 187) := ⟨tabE P _ _ (by kernel_rfl) (by kernel_rfl) (by kernel_rfl) (by kernel_rfl) (by kernel_rfl) (by kernel_rfl) (by kernel_rfl) (by kernel_rfl) (by kernel_rfl), .inl (by kernel_rfl)⟩
theorem tab_10 (P : Params) : (∀ k, k < 9 → exmOne (hd.heap_39 P) (.ref (clsOf k)) (.type "LookupError") = some (takes 10 k)) ∧ KtsName (hd.heap_39 P) "LookupError" (.type "LookupError") := ⟨tabE P _ _ (by kernel_rfl) (by kernel_rfl) (by kernel_rfl) (by kernel_rfl) (by kernel_rfl) (by kernel_rfl) (by kernel_rfl) (by kernel_rfl) (by kernel_rfl), .inr ⟨by kernel_rfl, by kernel_rfl, by decide⟩⟩
theorem tab_11 (P : Params) : (∀ k, k < 9 → exmOne (hd.heap_39 P) (.ref (clsOf k)) (.type "ValueError") = some (takes 11 k)) ∧ KtsName (hd.heap_39 P) "ValueError" (.type "ValueError") := ⟨tabE P _ _ (by kernel_rfl) (by kernel_rfl) (by kernel_rfl) (by kernel_rfl) (by kernel_rfl) (by kernel_rfl) (by kernel_rfl) (by kernel_rfl) (by kernel_rfl), .inr ⟨by kernel_rfl, by kernel_rfl, by decide⟩⟩
theorem tab_12 (P : Params) : (∀ k, k < 9 → exmOne (hd.heap_39 P) (.ref (clsOf k)) (.type "SyntaxError") = some (takes 12 k)) ∧ KtsName (hd.heap_39 P) "SyntaxError" (.type "SyntaxError") := ⟨tabE P _ _ (by kernel_rfl) (by kernel_rfl) (by kernel_rfl) (by kernel_rfl) (by kernel_rfl) (by kernel_rfl) (by kernel_rfl) (by kernel_rfl) (by kernel_rfl), .inr ⟨by kernel_rfl, by kernel_rfl, by decide⟩⟩
end Mine

end
section -- L2m
set_option maxRecDepth 100000
set_option maxHeartbeats 1000000
set_option linter.unusedVariables false
namespace Mine
open PySem PySem.W PyProof.Rows
section
variable {prog : Program} {w : World} {base h1 h2 g : Heap} {l : List Env} {s : Shared} {R : Result → Shared → Prop} {k n tk2 : Nat} {q L e2 d2 t2 a : Addr} {A₀ : Around} {m : Str → Option Value} {name : Str} {scope : Scope} {cd : Value} {its : List Value}
theorem nil_end (hk : k < 9) (B : Below A₀ base l g) (F : Fr g L h1 m) (hLn : s.heap.get? L = none) (X : (hd.heap_39 w.params).In base)
    (hS1 : ∀ b o, s.heap.get? b = some o → h1.get? b = some o) (hS2 : ∀ b o, h1.get? b = some o → h2.get? b = some o) (hE : ErrAt k h2 e2 d2 t2 .none .none) (n1 : h1.get? e2 = none) (n2 : h1.get? d2 = none) (n3 : h1.get? t2 = none)
    (hq : s.heap.get? q = some (listOf its.toArray n)) (hqf : q ∉ l.filterMap (·.frame)) (h : Thru base l s q its [] k R) (hk' : scope.kind = .function) :
    ∃ e C d a', Value.ref e2 = .ref e ∧ h2.get? e = some (excObj C d a' .none .none) ∧ ECls (model prog w) h2 C ∧
      wpAny (model prog w) (A₀.deeper (envOf name scope L a cd)) (leaving (envOf name scope L a cd) (.ref e)) (fun _ s'' => R (.error (.ref e)) s'') (fun e' s'' => R (.error e') s'') { s with heap := h2, toks := tk2 } := by
  have BB : Below (A₀.deeper (envOf name scope L a cd)) base (envOf name scope L a cd :: l) h1 := B.push F hk'
  have hst2 : base.StaysIn h2 := fun b o e => hS2 b o (BB.stays b o e)
  have hff : h2.FunFrames base (envOf name scope L a cd :: l) := BB.frames.of_keeps fun b o hb _ => ⟨o, hS2 b o hb, rfl⟩
  have bn : ∀ {b}, h1.get? b = none → base.get? b = none := fun {b} hb => by
    cases z : base.get? b with
    | none => rfl
    | some o => rw [BB.stays _ _ z] at hb; cases hb
  have sn : ∀ {b}, h1.get? b = none → New s.heap b := fun {b} hb => (New.of_none hb).keeps hS1
  refine ⟨e2, clsOf k, some d2, .ref t2, rfl, hE.ex, ecls_of (X.keeps hst2) (cf_all _ _ hk).ex, ?_⟩
  refine leave_first (s := { s with heap := h2, toks := tk2 }) BB.stack hff rfl hE.ex hst2 (bn n1) fun h' tb' a1 a2 a3 a4 => ?_
  have nde : d2 ≠ e2 := fun z => by obtain ⟨es, n, hd, _⟩ := hE.di; rw [z, hE.ex] at hd; cases hd
  have nte : t2 ≠ e2 := fun z => by obtain ⟨es, n, hd, _⟩ := hE.tu; rw [z, hE.ex] at hd; cases hd
  have hq2 := hS2 _ _ (hS1 _ _ hq)
  have hqL : q ≠ L := fun z => by rw [z, hLn] at hq; cases hq
  have hqf' : q ∉ (envOf name scope L a cd :: l).filterMap (·.frame) := fun z => by
    rcases List.mem_cons.mp z with z | z
    · exact hqL z
    · exact hqf z
  refine h h' e2 d2 t2 tb' .none [] n tk2 [] ?_ a4 ?_ trivial ?_ a2 (.last a1) (by simp) (sn n1) (sn n2) (sn n3) ⟨bn n1, bn n2, bn n3⟩
  · refine Kept.oldN ((Kept.of_keeps fun b o hb => hS2 b o (hS1 b o hb)).trans a3) (fun b hb => ?_) fun b hb => ?_
    · rcases List.mem_cons.mp hb with z | z
      · exact .inr (.of_none (by rw [z]; exact hLn))
      · exact .inl z
    · rw [List.mem_singleton.mp hb]; exact .inr (sn n1)
  · rw [List.map_nil, List.append_nil]
    exact a3.get hq2 (fun z => by rw [List.mem_singleton.mp z, hE.ex] at hq2; cases hq2) notTbL hqf'
  · exact hE.kept a3 a1 (by simp [nde]) (by simp [nte]) ((New.of_none n2).frames BB.frames) ((New.of_none n3).frames BB.frames)
end
end Mine

end
section -- L2th
open PySem PySem.W PyProof.Rows Mine
set_option maxRecDepth 100000
set_option maxHeartbeats 600000
set_option linter.unusedVariables false
namespace Mine
theorem upI {g n : Int} (h : n ≤ g) (hn : ¬ g = n) : n + 1 ≤ g := Int.add_one_le_of_lt (Int.lt_iff_le_and_ne.mpr ⟨h, Ne.symm hn⟩)
theorem g12 {g : Int} (h : 0 ≤ g ∧ g ≤ 12) (h0 : ¬ g = 0) (h1 : ¬ g = 1) (h2 : ¬ g = 2) (h3 : ¬ g = 3) (h4 : ¬ g = 4) (h5 : ¬ g = 5) (h6 : ¬ g = 6) (h7 : ¬ g = 7) (h8 : ¬ g = 8) (h9 : ¬ g = 9) (h10 : ¬ g = 10) (h11 : ¬ g = 11) : g = 12 :=
  Int.le_antisymm h.2 (upI (n := 11) (upI (n := 10) (upI (n := 9) (upI (n := 8) (upI (n := 7) (upI (n := 6) (upI (n := 5) (upI (n := 4) (upI (n := 3) (upI (n := 2) (upI (n := 1) (upI (n := 0) h.1 h0) h1) h2) h3) h4) h5) h6) h7) h8) h9) h10) h11)
theorem thru_nil {prog : Program} {w : World} : ThruP prog w [] := by
  intro base l mg mb loose mean s kt R dp un gs k G q its gvv n nG hk hgs hgvv hst hff X T hdp hun hbs hq hG hz hqG nb h
  cases hgvv
  have hun' : un + 3 + 64 < cLine := by rw [show cLine = 9900 from rfl]; simp only [List.length_nil] at hun; omega
  have hdp' : dp ≤ 700 := by omega
  w_on
  refine' enterL (binds := [("guards", .ref G), ("kind", .int k kt), ("told", .ref q)]) (news := [(q, listOf its.toArray n), (G, listOf #[] nG)]) rfl hst hff X T ?kn ?k6 ?k7 ?k8 ?k9 ?kB ?_ ?c2 ?c3 ?c4 ?c5
  (case kn => intro b hb; simp only [List.mem_cons, List.not_mem_nil, or_false] at hb; rcases hb with rfl | rfl; exact ⟨hq, nb _ (by simp)⟩; exact ⟨hG, nb _ (by simp)⟩)
  (case k6 => k_dflt k_is); (case k7 => k_dflt k_is); (case k8 => (show dp < 1000); omega); (case k9 => exact BindsTo.of_eq rfl); (case c5 => decide); (case kB => exact locs rfl); (case c2 => exact rfl); (case c3 => exact rfl); (case c4 => exact rfl)
  intro g' L' h₁ F' N' B' X' T' hL' hin hout hlt
  subst hL'
  k_fold
  repeat' ((fail_if_success (with_reducible show wpAny _ _ (exec (Stmt.Raise _ _ _) _) _ _ _)); first | (k_unfold; (try dsimp only)) | (k_end; wrow_close) | (with_reducible refine execs_one ?_; (try dsimp only)) | ((with_reducible show wpAny _ _ (compareOp _ (Value.ref _) (Value.ref _)) _ _ _); k_dflt (first | refine Mine.eq_cons (by k_asm) (by k_mem) (by assumption) (by k_mem) (by assumption) ?_ | refine Mine.eq_nil (by k_asm) (by k_mem) (by k_mem) (by assumption) ?_)) | walk1 | (dsimp only; walk1) | (dsimp only [List.nil_append, List.cons_append]; walk1) | (leave1; walk_say "STEP leave1"; try dsimp only) | fail "no step")
  refine exec_raise fun t' ht' => raise_none rfl (ht' _ _ _ ?_)
  repeat' ((fail_if_success (with_reducible show wpAny _ _ (call (Value.ref _) [Value.int _ _]) _ _ _)); first | (k_unfold; (try dsimp only)) | (k_end; wrow_close) | (with_reducible refine execs_one ?_; (try dsimp only)) | walk1 | (dsimp only; walk1) | (dsimp only [List.nil_append, List.cons_append]; walk1) | (leave1; walk_say "STEP leave1"; try dsimp only) | fail "no step")
  refine' err_K k rfl hk ?kB ?kF ?kN rfl rfl rfl X T ?hdp ?_
  (case kB => exact B')
  (case kF => k_asm)
  (case kN => k_asm)
  (case hdp => (show dp + 1 ≤ 900); omega)
  intro h2 e2 d2 t2 tk2 F2 N2 hk2 hE2 n1 n2 n3
  rename_i h6 FF NN u1
  have hSS : ∀ b o, s.heap.get? b = some o → h6.get? b = some o := by
    intro b o hb
    by_cases z1 : b = q
    · rw [z1] at hb ⊢; rw [hq] at hb; rw [← hb]; exact News.get NN (by simp)
    by_cases z2 : b = G
    · rw [z2] at hb ⊢; rw [hG] at hb; rw [← hb]; exact News.get NN (by simp)
    exact FF.keep b o (hin b o hb (by simp only [List.map_cons, List.map_nil, List.mem_cons, List.not_mem_nil, or_false, not_or]; exact ⟨z1, z2⟩))
  exact nil_end (s := s) (tk2 := tk2) hk B' FF (Heap.get?_none_of_le (Nat.le_refl _)) X hSS hk2 hE2 n1 n2 n3 hq (nb q (by simp)).2 h rfl
theorem thru_cons {prog : Program} {w : World} {g : Int} {gr : List Int} (IH : ThruP prog w gr) : ThruP prog w (g :: gr) := by
  intro base l mg mb loose mean s kt R dp un gs k G q its gvv n nG hk hgs hgvv hst hff X T hdp hun hbs hq hG hz hqG nb h
  cases hgvv with
  | cons hx hgv =>
  cases hx with
  | int _ gt =>
  rename_i gv
  have hg := hgs g (.head _)
  have hgr : ∀ g ∈ gr, 0 ≤ g ∧ g ≤ 12 := fun y hy => hgs y (.tail _ hy)
  have hgl : gv.length ≤ 90 := by rw [hgv.length, List.length_map]; simp only [List.length_cons] at hz; omega
  have hun' : un + 3 + 64 < cLine := by rw [show cLine = 9900 from rfl]; simp only [List.length_cons] at hun; omega
  have hdp' : dp ≤ 700 := by omega
  w_on
  refine' enterL (binds := [("guards", .ref G), ("kind", .int k kt), ("told", .ref q)]) (news := [(q, listOf its.toArray n), (G, listOf (Value.int g gt :: gv).toArray nG)]) rfl hst hff X T ?kn ?k6 ?k7 ?k8 ?k9 ?kB ?_ ?c2 ?c3 ?c4 ?c5
  (case kn => intro b hb; simp only [List.mem_cons, List.not_mem_nil, or_false] at hb; rcases hb with rfl | rfl; exact ⟨hq, nb _ (by simp)⟩; exact ⟨hG, nb _ (by simp)⟩)
  (case k6 => k_dflt k_is); (case k7 => k_dflt k_is); (case k8 => (show dp < 1000); omega); (case k9 => exact BindsTo.of_eq rfl); (case c5 => decide); (case kB => exact locs rfl); (case c2 => exact rfl); (case c3 => exact rfl); (case c4 => exact rfl)
  intro g' L' h₁ F' N' B' X' T' hL' hin hout hlt
  subst hL'
  k_fold
  repeat' ((fail_if_success (with_reducible show wpAny _ _ (exec (Stmt.Try _ _ _ _ _) _) _ _ _)); first | (k_unfold; (try dsimp only)) | (k_end; wrow_close) | (with_reducible refine execs_one ?_; (try dsimp only)) | ((with_reducible show ite _ _ _); first | with_reducible refine ite_tt ?_ | with_reducible refine ite_ff ?_ | (with_reducible refine split_ieq ?_ ?_ <;> intro _)) | ((with_reducible show wpAny _ _ (compareOp _ (Value.ref _) (Value.ref _)) _ _ _); k_dflt (first | refine Mine.eq_cons (by k_asm) (by k_mem) (by assumption) (by k_mem) (by assumption) ?_ | refine Mine.eq_nil (by k_asm) (by k_mem) (by k_mem) (by assumption) ?_)) | ((with_reducible show wpAny _ _ (subscriptTail _ _ (Value.ref _) (Value.int 0 _)) _ _ _); k_dflt (refine item_listL (by kmk_list) (by decide) (by decide) (by exact rfl) ?_)) | ((with_reducible show wpAny _ _ (subscriptTail _ (PySem.Expr.Slice _ _ none _) (Value.ref _) (Value.ref _)) _ _ _); k_dflt (refine kmk_slice_lit (by k_asm) (by k_asm) (by kmk_list) (by kmk_part) (by kmk_part) (by exact Mine.slice1 _ _) ?_ (by with_unfolding_all rfl) (by kmk_pure) (by rw [List.size_toArray, List.length_cons, sizeLine_eq]; omega)); intro D' h' F' N' l1; (try k_lt l1); (try k_sweep)) | walk1 | (dsimp only; walk1) | (dsimp only [List.nil_append, List.cons_append]; walk1) | (leave1; walk_say "STEP leave1"; try dsimp only) | fail "no step")
  · have e : g = 0 := by assumption
    subst e
    refine guard_K (oE := _) IH hk hg hgr hgv hdp hun X T hff hbs hz hq hG nb B' (by assumption) (by assumption) (by assumption) hin h (tab_0 _).1 (tab_0 _).2 rfl rfl rfl rfl rfl rfl rfl rfl rfl rfl rfl rfl rfl (by decide) rfl rfl rfl
  · have e : g = 1 := by assumption
    subst e
    refine guard_K (oE := _) IH hk hg hgr hgv hdp hun X T hff hbs hz hq hG nb B' (by assumption) (by assumption) (by assumption) hin h (tab_1 _).1 (tab_1 _).2 rfl rfl rfl rfl rfl rfl rfl rfl rfl rfl rfl rfl rfl (by decide) rfl rfl rfl
  · have e : g = 2 := by assumption
    subst e
    refine guard_K (oE := _) IH hk hg hgr hgv hdp hun X T hff hbs hz hq hG nb B' (by assumption) (by assumption) (by assumption) hin h (tab_2 _).1 (tab_2 _).2 rfl rfl rfl rfl rfl rfl rfl rfl rfl rfl rfl rfl rfl (by decide) rfl rfl rfl
  · have e : g = 3 := by assumption
    subst e
    refine guard_K (oE := _) IH hk hg hgr hgv hdp hun X T hff hbs hz hq hG nb B' (by assumption) (by assumption) (by assumption) hin h (tab_3 _).1 (tab_3 _).2 rfl rfl rfl rfl rfl rfl rfl rfl rfl rfl rfl rfl rfl (by decide) rfl rfl rfl
  · have e : g = 4 := by assumption
    subst e
    refine guard_K (oE := _) IH hk hg hgr hgv hdp hun X T hff hbs hz hq hG nb B' (by assumption) (by assumption) (by assumption) hin h (tab_4 _).1 (tab_4 _).2 rfl rfl rfl rfl rfl rfl rfl rfl rfl rfl rfl rfl rfl (by decide) rfl rfl rfl
  · have e : g = 5 := by assumption
    subst e
    refine guard_K (oE := _) IH hk hg hgr hgv hdp hun X T hff hbs hz hq hG nb B' (by assumption) (by assumption) (by assumption) hin h (tab_5 _).1 (tab_5 _).2 rfl rfl rfl rfl rfl rfl rfl rfl rfl rfl rfl rfl rfl (by decide) rfl rfl rfl
  · have e : g = 6 := by assumption
    subst e
    refine guard_K (oE := _) IH hk hg hgr hgv hdp hun X T hff hbs hz hq hG nb B' (by assumption) (by assumption) (by assumption) hin h (tab_6 _).1 (tab_6 _).2 rfl rfl rfl rfl rfl rfl rfl rfl rfl rfl rfl rfl rfl (by decide) rfl rfl rfl
  · have e : g = 7 := by assumption
    subst e
    refine guard_K (oE := _) IH hk hg hgr hgv hdp hun X T hff hbs hz hq hG nb B' (by assumption) (by assumption) (by assumption) hin h (tab_7 _).1 (tab_7 _).2 rfl rfl rfl rfl rfl rfl rfl rfl rfl rfl rfl rfl rfl (by decide) rfl rfl rfl
  · have e : g = 8 := by assumption
    subst e
    refine guard_K (oE := _) IH hk hg hgr hgv hdp hun X T hff hbs hz hq hG nb B' (by assumption) (by assumption) (by assumption) hin h (tab_8 _).1 (tab_8 _).2 rfl rfl rfl rfl rfl rfl rfl rfl rfl rfl rfl rfl rfl (by decide) rfl rfl rfl
  · have e : g = 9 := by assumption
    subst e
    refine guard_K (oE := _) IH hk hg hgr hgv hdp hun X T hff hbs hz hq hG nb B' (by assumption) (by assumption) (by assumption) hin h (tab_9 _).1 (tab_9 _).2 rfl rfl rfl rfl rfl rfl rfl rfl rfl rfl rfl rfl rfl (by decide) rfl rfl rfl
  · have e : g = 10 := by assumption
    subst e
    refine guard_K (oE := _) IH hk hg hgr hgv hdp hun X T hff hbs hz hq hG nb B' (by assumption) (by assumption) (by assumption) hin h (tab_10 _).1 (tab_10 _).2 rfl rfl rfl rfl rfl rfl rfl rfl rfl rfl rfl rfl rfl (by decide) rfl rfl rfl
  · have e : g = 11 := by assumption
    subst e
    refine guard_K (oE := _) IH hk hg hgr hgv hdp hun X T hff hbs hz hq hG nb B' (by assumption) (by assumption) (by assumption) hin h (tab_11 _).1 (tab_11 _).2 rfl rfl rfl rfl rfl rfl rfl rfl rfl rfl rfl rfl rfl (by decide) rfl rfl rfl
  · have e : g = 12 := g12 hg (by assumption) (by assumption) (by assumption) (by assumption) (by assumption) (by assumption) (by assumption) (by assumption) (by assumption) (by assumption) (by assumption) (by assumption)
    subst e
    refine guard_K (oE := _) IH hk hg hgr hgv hdp hun X T hff hbs hz hq hG nb B' (by assumption) (by assumption) (by assumption) hin h (tab_12 _).1 (tab_12 _).2 rfl rfl rfl rfl rfl rfl rfl rfl rfl rfl rfl rfl rfl (by decide) rfl rfl rfl
theorem thru_all (prog : Program) (w : World) : ∀ gl, ThruP prog w gl
  | [] => thru_nil
  | _ :: r => thru_cons (thru_all prog w r)
end Mine

end
section -- L2n
set_option maxRecDepth 100000
set_option maxHeartbeats 1000000
set_option linter.unusedVariables false
namespace Mine
open PySem PySem.W PySem.Calls PyProof.Rows PyProof.V
section
variable {prog : Program} {w : World} {A : Around} {E : Value → Shared → Prop} {s : Shared} {env : Env} {h₀ : Heap} {x : Str} {body : List Stmt} {Q : Flow → Shared → Prop}
def EndL (h₀ : Heap) (L : Addr) (J : (Str → Option Value) → List (Addr × Obj) → Prop) (I : Addr) (oI : Obj) (s₁ s₂ : Shared) : Prop :=
  ∃ h' tk m' nx, s₂ = { s₁ with heap := h', toks := tk } ∧ Fr h₀ L h' m' ∧ News h₀ L h' ((I, oI) :: nx) ∧ (∀ p ∈ nx, p.1 ≠ I) ∧ J m' nx
def PostL (h₀ : Heap) (L : Addr) (J : (Str → Option Value) → List (Addr × Obj) → Prop) (I : Addr) (oI : Obj) (s₁ : Shared) (Q : Flow → Shared → Prop) (f : Flow) (s₂ : Shared) : Prop :=
  match f with
  | .ret v => Q (.ret v) s₂
  | .brk => Q .next s₂
  | _ => EndL h₀ L J I oI s₁ s₂
/-- a loop over a list of the ledger; the ledger may grow -/
theorem iter_invGL {l : Addr} {vs : List Value} {ns : List Int} {nn : Nat} {m₀ : Str → Option Value} {news : List (Addr × Obj)} (J : Nat → (Str → Option Value) → List (Addr × Obj) → Prop)
    (hh : A.handled = none) (hl : (l, listOf vs.toArray nn) ∈ news) (hi : IntsAre vs ns) (F : Fr h₀ env.locals s.heap m₀) (N : News h₀ env.locals s.heap news) (hj : J 0 m₀ news) (hJl : ∀ i m nx, J i m nx → (l, listOf vs.toArray nn) ∈ nx)
    (turn : ∀ i n t m₁ news₁ h tk I oI, ns[i]? = some n → oI.cls ≠ .type "traceback" → (∀ p ∈ news₁, p.1 ≠ I) → J i m₁ news₁ → Fr h₀ env.locals h (fun y => if y = x then some (.int n t) else m₁ y) → News h₀ env.locals h ((I, oI) :: news₁) →
      wpAny (model prog w) A (execs body env) (PostL h₀ env.locals (J (i + 1)) I oI { s with heap := h, toks := tk } Q) E { s with heap := h, toks := tk })
    (done : ∀ m₁ news₁ h tk, J ns.length m₁ news₁ → Fr h₀ env.locals h m₁ → News h₀ env.locals h news₁ → Q .next { s with heap := h, toks := tk }) :
    wpAny (model prog w) A (pyIter (.ref l)) (fun it s₂ => LoopAtV prog w A h₀ env x body Q E it s₂) E s := by
  have hol : s.heap.get? l = some (listOf vs.toArray nn) := (N _ hl).1
  have hls : s.heap.IsList l vs.toArray := ⟨_, hol, rfl, nn, rfl⟩
  have hne : l ≠ s.heap.objs.size := Nat.ne_of_lt (Heap.lt_size hol)
  refine wpAny_pyIter_list hls ?_
  have W := Walks.list (prog := prog) (w := w) hh s.heap.objs.size l hne vs.toArray
  have hlen : vs.toArray.size = ns.length := by simp [hi.length]
  rw [hlen] at W
  refine ⟨_, _, _, ns.length, _, _, m₀, news, J, rfl, W, ?_, ?_, ?_, ⟨⟨_, Heap.get?_push_size _ rfl, rfl, rfl⟩, hls.at fun o e => Heap.get?_push_of_some _ e⟩, F.push _, (fun p hp => ⟨Heap.get?_push_of_some _ (N p hp).1, (N p hp).2⟩), hj, ?_, ?_⟩
  · intro hm
    rcases List.mem_cons.mp hm with e | hm
    · exact absurd F.ns.lt (e ▸ Nat.lt_irrefl _)
    · exact (N _ hl).2.1 ((List.mem_singleton.mp hm).symm)
  · intro b hb
    rw [List.mem_singleton.mp hb]
    exact next_is_new F
  · intro p hp hI
    exact absurd (Heap.lt_size (N p hp).1) ((List.mem_singleton.mp hI) ▸ Nat.lt_irrefl _)
  · rintro i v m₁ news₁ s₁ own ⟨hh', tk', rfl⟩ hin hP hJ hoff hown hget hfp hst F₁ N₁
    have hI0 : h₀.get? s.heap.objs.size = none := next_is_new F
    obtain ⟨⟨oI, hoI, hIc⟩, _⟩ := id hst
    have hIown : (s.heap.objs.size, oI) ∈ own := hfp _ (List.mem_cons.mpr (.inl rfl)) hI0 _ hoI
    have hlt' : i < ns.length := hin
    obtain ⟨t, hx⟩ := hi.get i ns[i] (by simp [hlt'])
    have hv : v = .int ns[i] t := by
      have hP' : vs[i]? = some v := by simpa using hP
      rw [hx] at hP'; exact (Option.some.inj hP').symm
    subst hv
    have hl₁ := hJl _ _ _ hJ
    have hlo : hh'.get? l = some (listOf vs.toArray nn) := (N₁ _ (List.mem_append.mpr (.inr hl₁))).1
    have N₂ : News h₀ env.locals hh' ((s.heap.objs.size, oI) :: news₁) := fun p hp => N₁ p ((List.mem_cons.mp hp).elim (fun h => List.mem_append.mpr (.inl (h ▸ hIown))) fun h => List.mem_append.mpr (.inr h))
    have hcls : oI.cls ≠ .type "traceback" := by
      intro z
      rw [hIc.1] at z
      exact absurd z (by simp)
    refine wpAny_mono (turn i ns[i] t m₁ news₁ hh' tk' s.heap.objs.size oI (by simp [hlt']) hcls (fun p hp z => hoff p hp (List.mem_singleton.mpr z)) hJ F₁ N₂) (fun f s₂ p => ?_) fun _ _ e => e
    have fin : EndL h₀ env.locals (J (i + 1)) s.heap.objs.size oI { s with heap := hh', toks := tk' } s₂ → LoopStepU h₀ env.locals [s.heap.objs.size] own (J (i + 1)) { s with heap := hh', toks := tk' } .next s₂ := by
      rintro ⟨h', tk, m', nx, e, F', N', ha, hm⟩
      refine ⟨rfl, h', tk, m', nx, e, F', fun p hp => ?_, fun p hp hq => ha p hp (List.mem_singleton.mp hq), hm⟩
      rcases List.mem_append.mp hp with h | h
      · have hg := hget p h
        simp only at hg
        rcases List.mem_cons.mp (hown p h) with h1 | h1
        · rw [h1, hoI] at hg
          have h3 : p = (s.heap.objs.size, oI) := Prod.ext h1 (Option.some.inj hg).symm
          rw [h3]; exact N' _ (.head _)
        · have h1 := List.mem_singleton.mp h1
          rw [h1, hlo] at hg
          have h3 : p = (l, listOf vs.toArray nn) := Prod.ext h1 (Option.some.inj hg).symm
          rw [h3]; exact N' _ (.tail _ (hJl _ _ _ hm))
      · exact N' p (.tail _ h)
    cases f with
    | ret v => exact .ret p
    | brk => exact .brk p
    | next => exact .next (fin p)
    | cont => exact .cont (fin p)
  · rintro h' tk m' news' F' N' _ hJ
    exact done m' news' h' tk hJ F' N'
end
end Mine

end
section -- L2o
set_option maxRecDepth 100000
set_option maxHeartbeats 1000000
set_option linter.unusedVariables false
namespace Mine
open PySem PySem.W PySem.Calls PyProof.Rows PyProof.V
structure Tail (tl : List (Addr × Obj)) (G W B D : Addr) (gv wv bv : List Value) (n nw nb : Nat) : Prop where
  g : (G, listOf gv.toArray n) ∈ tl
  wd : (W, listOf wv.toArray nw) ∈ tl
  bh : (B, listOf bv.toArray nb) ∈ tl
  off : ∀ p ∈ tl, @Ne Nat p.1 D
  bs : ∀ k, k < 9 → ∃ a vs, bv[k]? = some (.ref a) ∧ (a, listOf vs.toArray 0) ∈ tl ∧ DatAll [] vs (behindOf k)
def DueK (S : Heap) (G W B D R : Addr) (gv wv bv rv : List Value) (n nw nb nr : Nat) (rows : List (List Dat)) (kk : Nat) (m : Str → Option Value) (nx : List (Addr × Obj)) : Prop :=
  ∃ dv nD tl nl kt', nx = (D, listOf dv.toArray nD) :: tl ∧ Tail tl G W B D gv wv bv n nw nb ∧ (R, listOf rv.toArray nr) ∈ tl ∧ (∀ p ∈ nl, p ∈ tl ∧ S.get? p.1 = none) ∧ DatAll nl dv (rows.map Dat.list) ∧
    m "kind" = some (.int kk kt') ∧ m "due" = some (.ref D) ∧ m "behind" = some (.ref B) ∧ m "words" = some (.ref W)
def DueJ (S : Heap) (G W B D R : Addr) (gv wv bv rv : List Value) (n nw nb nr : Nat) (gr : List Int) (k : Nat) (i : Nat) (m : Str → Option Value) (nx : List (Addr × Obj)) : Prop :=
  DueK S G W B D R gv wv bv rv n nw nb nr (runT (gr.take i).reverse k).1 (runT (gr.take i).reverse k).2 m nx
theorem takes_in {kk : Nat} {g : Int} (h : 4 < (kk : Int)) : ([0, 1, (kk : Int) + 1, 6].any fun x => x == g) = takes g kk := by
  unfold takes; rw [if_pos (Int.ofNat_lt.mp h)]
theorem takes_out {kk : Nat} {g : Int} (h : ¬ 4 < (kk : Int)) : ([0, 1, (kk : Int) + 1, 0].any fun x => x == g) = takes g kk := by
  unfold takes; rw [if_neg fun x => h (Int.ofNat_lt.mpr x)]
theorem allLt_mem {d : Addr} {tl : List (Addr × Obj)} (h : AllLt d tl) : ∀ p ∈ tl, @LT.lt Nat _ p.1 d := by
  induction tl with
  | nil => intro p hp; cases hp
  | cons q r ih =>
    intro p hp
    rcases List.mem_cons.mp hp with rfl | hp
    · exact h.1
    · exact ih h.2 p hp
section
variable {S g' h : Heap} {L G W B D R I D' : Addr} {oI : Obj} {gv wv bv rv dv bl : List Value} {n nw nb nr nD nE tk : Nat} {rows : List (List Dat)} {kk : Nat} {m : Str → Option Value} {tl nl : List (Addr × Obj)} {g : Int} {t kt' t9 : Tok} {wv1 : Value} {s₁ : Shared} {x1 x2 : Addr × Obj}
theorem due_yes (hk : kk < 9) (hg : 0 ≤ g ∧ g ≤ 12) (F : Fr g' L h m) (N : News g' L h ((D', listOf (.int g t :: wv1 :: .int kk kt' :: bl).toArray 0) :: x1 :: x2 :: (I, oI) :: (D, listOf (dv.toArray.push (.ref D')) nE) :: tl)) (hI : @LT.lt Nat _ I D') (hD : @LT.lt Nat _ D D') (hl : AllLt D' tl)
    (hT : Tail tl G W B D gv wv bv n nw nb) (hR : (R, listOf rv.toArray nr) ∈ tl) (hnl : ∀ p ∈ nl, p ∈ tl ∧ S.get? p.1 = none) (hda : DatAll nl dv (rows.map Dat.list)) (hw : DatIn [] wv1 (msgOf kk)) (hb : DatAll [] bl (behindOf kk))
    (fr : ∀ a, g'.get? a = none → @Ne Nat a G → @Ne Nat a W → S.get? a = none) (hoff : ∀ p ∈ (D, listOf dv.toArray nD) :: tl, p.1 ≠ I)
    (mk : m "kind" = some (.int (((kk : Int) + g + 1).fmod 9) t9)) (md : m "due" = some (.ref D)) (mb : m "behind" = some (.ref B)) (mw : m "words" = some (.ref W)) :
    EndL g' L (DueK S G W B D R gv wv bv rv n nw nb nr (rows ++ [rowOf g kk]) ((((kk : Int) + g + 1) % 9).toNat)) I oI s₁ { s₁ with heap := h, toks := tk } := by
  have nD' := N _ (.head _)
  refine ⟨h, tk, m, (D, listOf (dv ++ [Value.ref D']).toArray nE) :: (D', listOf (.int g t :: wv1 :: .int kk kt' :: bl).toArray 0) :: tl, rfl, F, fun p hp => ?_, fun p hp => ?_, dv ++ [Value.ref D'], nE, _, (D', listOf (.int g t :: wv1 :: .int kk kt' :: bl).toArray 0) :: nl, t9, rfl, ⟨.tail _ hT.g, .tail _ hT.wd, .tail _ hT.bh, fun p hp => ?_, fun j hj => ?_⟩, .tail _ hR, fun p hp => ?_, ?_, ?_, md, mb, mw⟩
  · rcases List.mem_cons.mp hp with rfl | hp
    · exact N _ (.tail _ (.tail _ (.tail _ (.head _))))
    rcases List.mem_cons.mp hp with rfl | hp
    · have := N _ (.tail _ (.tail _ (.tail _ (.tail _ (.head _)))))
      simpa using this
    rcases List.mem_cons.mp hp with rfl | hp
    · exact nD'
    · exact N _ (.tail _ (.tail _ (.tail _ (.tail _ (.tail _ hp)))))
  · rcases List.mem_cons.mp hp with rfl | hp
    · exact hoff (D, listOf dv.toArray nD) (.head _)
    rcases List.mem_cons.mp hp with rfl | hp
    · exact Nat.ne_of_gt hI
    · exact hoff _ (.tail _ hp)
  · rcases List.mem_cons.mp hp with rfl | hp
    · exact Nat.ne_of_gt hD
    · exact hT.off p hp
  · obtain ⟨a, vs, e1, e2, e3⟩ := hT.bs j hj
    exact ⟨a, vs, e1, .tail _ e2, e3⟩
  · rcases List.mem_cons.mp hp with rfl | hp
    · exact ⟨.head _, fr _ nD'.2.2 (Nat.ne_of_gt (allLt_mem hl _ hT.g)) (Nat.ne_of_gt (allLt_mem hl _ hT.wd))⟩
    · exact ⟨.tail _ (hnl p hp).1, (hnl p hp).2⟩
  · rw [List.map_append]
    refine DatAll.append (hda.mono fun p hp => .tail _ hp) (.one (.list (.head _) ?_))
    exact .cons (.int _ _) (.cons (hw.mono fun _ z => absurd z (List.not_mem_nil)) (.cons (.int _ _) (hb.mono fun _ z => absurd z (List.not_mem_nil))))
  · rw [mk, Int.fmod_eq_emod_of_nonneg _ (by decide)]
    congr 2
    omega
theorem due_no (F : Fr g' L h m) (N : News g' L h (x1 :: (I, oI) :: (D, listOf dv.toArray nD) :: tl))
    (hT : Tail tl G W B D gv wv bv n nw nb) (hR : (R, listOf rv.toArray nr) ∈ tl) (hnl : ∀ p ∈ nl, p ∈ tl ∧ S.get? p.1 = none) (hda : DatAll nl dv (rows.map Dat.list))
    (hoff : ∀ p ∈ (D, listOf dv.toArray nD) :: tl, p.1 ≠ I)
    (mk : m "kind" = some (.int kk kt')) (md : m "due" = some (.ref D)) (mb : m "behind" = some (.ref B)) (mw : m "words" = some (.ref W)) :
    EndL g' L (DueK S G W B D R gv wv bv rv n nw nb nr rows kk) I oI s₁ { s₁ with heap := h, toks := tk } :=
  ⟨h, tk, m, _, rfl, F, fun p hp => N p (.tail _ hp), hoff, dv, nD, _, nl, kt', rfl, hT, hR, hnl, hda, mk, md, mb, mw⟩
end
end Mine

end
section -- L2due
open PySem PySem.W PyProof.Rows Mine
set_option maxRecDepth 100000
set_option maxHeartbeats 1000000
set_option linter.unusedVariables false
namespace Mine
local macro_rules | `(tactic| k_all) => `(tactic| assumption)
local macro_rules | `(tactic| k_mem) => `(tactic| assumption)
theorem due_code {prog : Program} {w : World} {base : Heap} {l : List Env} {mg mb : Str → Option Value} {loose : List Str} {mean : ExcName → Option Value} {s : Shared} {kt : Tok} {R : Result → Shared → Prop}
    {dp un : Nat} {gs : Option (List Code)} {k : Nat} {gl : List Int} {G W : Addr} {gv wv : List Value} {n nw : Nat} (hk : k < 9) (hgl : ∀ g ∈ gl, 0 ≤ g ∧ g ≤ 12) (hgv : IntsAre gv gl) (hlen : gv.length ≤ 50)
    (hws : ∀ j, j < 9 → ∃ v, wv[j]? = some v ∧ DatIn [] v (msgOf j))
    (hst : base.StaysIn s.heap) (hff : s.heap.FunFrames base l) (X : (hd.heap_39 w.params).In base) (T : Top hd.view_39 loose mean mg mb base) (hdp : dp ≤ 700) (hun : un ≤ 8000)
    (hG : s.heap.get? G = some (listOf gv.toArray n)) (hW : s.heap.get? W = some (listOf wv.toArray nw)) (hGW : @Ne Nat G W) (nb : ∀ b ∈ [G, W], base.get? b = none ∧ b ∉ l.filterMap (·.frame))
    (h : ∀ h' D vals n' nl tk', (∀ b o, s.heap.get? b = some o → h'.get? b = some o) → h'.get? D = some (listOf vals.toArray n') → (∀ p ∈ nl, h'.get? p.1 = some p.2 ∧ s.heap.get? p.1 = none) → s.heap.get? D = none →
      DatAll nl vals (((runT gl k).1 ++ [rowOf 13 (runT gl k).2]).map Dat.list) → R (.ok (.ret (.ref D))) { s with heap := h', toks := tk' }) :
    codeAny (model prog w) ⟨none, dp, some l, gs, un⟩ (.call (.ref 224) ⟨[.ref G, .int k kt, .ref W], []⟩) R s := by
  have hun' : un + 3 + 64 < cLine := by rw [show cLine = 9900 from rfl]; omega
  w_on
  refine' enterL (binds := [("guards", .ref G), ("kind", .int k kt), ("words", .ref W)]) (news := [(G, listOf gv.toArray n), (W, listOf wv.toArray nw)]) rfl hst hff X T ?kn ?k6 ?k7 ?k8 ?k9 ?kB ?_ ?c2 ?c3 ?c4 ?c5
  (case kn => intro b hb; simp only [List.mem_cons, List.not_mem_nil, or_false] at hb; rcases hb with rfl | rfl; exact ⟨hG, nb _ (by simp)⟩; exact ⟨hW, nb _ (by simp)⟩)
  (case k6 => k_dflt k_is); (case k7 => k_dflt k_is); (case k8 => (show dp < 1000); omega); (case k9 => exact BindsTo.of_eq rfl); (case c5 => decide); (case kB => exact locs rfl); (case c2 => exact rfl); (case c3 => exact rfl); (case c4 => exact rfl)
  intro g' L' h₁ F' N' B' X' T' hL' hin hout hlt
  subst hL'
  k_fold
  repeat' ((fail_if_success (with_reducible show wpAny _ _ (exec (Stmt.For _ _ _ _ _) _) _ _ _)); first | (with_reducible refine execs_one ?_; (try dsimp only)) | ((with_reducible ((with_reducible show wpAny _ _ (eval (PySem.Expr.Name _ _) _) _ _ _); k_dflt (refine ld (by k_asm) (by first | exact rfl | assumption) ?_))); (try dsimp only)) | ((with_reducible ((with_reducible show wpAny _ _ (subscriptTail _ _ (Value.ref _) (Value.int _ _)) _ _ _); k_dflt (refine item_listL (by kmk_list) (by omega) (by omega) (by rw [Int.toNat_natCast]; assumption) ?_))); (try dsimp only)) | ((with_reducible ((with_reducible show wpAny _ _ (binaryOp _ (Value.ref _) (Value.ref _)) _ _ _); k_dflt (refine kmk_add_lit (by k_asm) (by k_asm) (by kmk_list) (by kmk_list) (by rw [List.toList_toArray, List.toList_toArray]) ?_ (by simp only [List.toList_toArray, List.length_cons, List.length_nil]; rw [sizeLine_eq]; omega)); intro D' h' F' N' l1; (try dsimp only [List.cons_append, List.nil_append] at N'); (try k_lt l1); (try k_sweep))); (try dsimp only)) | ((with_reducible ((try dsimp only [List.nil_append, List.cons_append]); (with_reducible show wpAny _ _ (call (Value.builtin "list.append") [Value.ref _, _]) _ _ _); k_dflt (refine append_K (by k_asm) (by k_asm) (by k_upd) ?_ (by rw [List.size_toArray, sizeLine_eq]; omega)); intro h' F' N'; (try k_sweep))); (try dsimp only)) | (walk1; (try dsimp only)) | (dsimp only; walk1) | fail "no step")
  rename_i t1 b0 x0 q0 b1 x1 q1 b2 x2 q2 b3 x3 q3 b4 x4 q4 b5 x5 q5 b6 x6 q6 b7 x7 q7 b8 x8 q8 B xB qB xs t2 D xD qD h0 F0 N0
  obtain ⟨tl, N1, hT⟩ : ∃ tl, News g' s.heap.objs.size h0 ((D, listOf #[] 0) :: tl) ∧ Tail tl G W B D gv wv [.ref b0, .ref b1, .ref b2, .ref b3, .ref b4, .ref b5, .ref b6, .ref b7, .ref b8] n nw 0 := by
    refine ⟨_, N0, ⟨by k_mem, by k_mem, by k_mem, by k_all, fun j hj => ?_⟩⟩
    match j, hj with
    | 0, _ => exact ⟨b0, [], rfl, by k_mem, .nil⟩
    | 1, _ => exact ⟨b1, [], rfl, by k_mem, .nil⟩
    | 2, _ => exact ⟨b2, [_, _], rfl, by k_mem, .cons (.str _ _) (.cons (.int _ _) .nil)⟩
    | 3, _ => exact ⟨b3, [_, _, _], rfl, by k_mem, .cons (.str _ _) (.cons (.str _ _) (.cons .none .nil))⟩
    | 4, _ => exact ⟨b4, [_], rfl, by k_mem, .cons (.str _ _) .nil⟩
    | 5, _ => exact ⟨b5, [_, _], rfl, by k_mem, .cons (.str _ _) (.cons (.str _ _) .nil)⟩
    | 6, _ => exact ⟨b6, [_, _], rfl, by k_mem, .cons (.str _ _) (.cons (.str _ _) .nil)⟩
    | 7, _ => exact ⟨b7, [_, _, _], rfl, by k_mem, .cons (.str _ _) (.cons (.str _ _) (.cons (.str _ _) .nil))⟩
    | 8, _ => exact ⟨b8, [_, _], rfl, by k_mem, .cons (.str _ _) (.cons (.str _ _) .nil)⟩
  generalize hbv : [Value.ref b0, .ref b1, .ref b2, .ref b3, .ref b4, .ref b5, .ref b6, .ref b7, .ref b8] = bv at hT
  clear N0 q0 q1 q2 q3 q4 q5 q6 q7 q8 qB qD hbv
  refine For_invV g' (by rfl) (by rfl) ?_
  repeat' ((fail_if_success (with_reducible show wpAny _ _ (subscriptTail _ _ _ _) _ _ _)); first | (with_reducible refine execs_one ?_; (try dsimp only)) | ((with_reducible ((with_reducible show wpAny _ _ (eval (PySem.Expr.Name _ _) _) _ _ _); k_dflt (refine ld (by k_asm) (by first | exact rfl | assumption) ?_))); (try dsimp only)) | ((with_reducible ((with_reducible show wpAny _ _ (subscriptTail _ _ (Value.ref _) (Value.int _ _)) _ _ _); k_dflt (refine item_listL (by kmk_list) (by omega) (by omega) (by rw [Int.toNat_natCast]; assumption) ?_))); (try dsimp only)) | ((with_reducible ((with_reducible show wpAny _ _ (binaryOp _ (Value.ref _) (Value.ref _)) _ _ _); k_dflt (refine kmk_add_lit (by k_asm) (by k_asm) (by kmk_list) (by kmk_list) (by rw [List.toList_toArray, List.toList_toArray]) ?_ (by simp only [List.toList_toArray, List.length_cons, List.length_nil]; rw [sizeLine_eq]; omega)); intro D' h' F' N' l1; (try dsimp only [List.cons_append, List.nil_append] at N'); (try k_lt l1); (try k_sweep))); (try dsimp only)) | ((with_reducible ((try dsimp only [List.nil_append, List.cons_append]); (with_reducible show wpAny _ _ (call (Value.builtin "list.append") [Value.ref _, _]) _ _ _); k_dflt (refine append_K (by k_asm) (by k_asm) (by k_upd) ?_ (by rw [List.size_toArray, sizeLine_eq]; omega)); intro h' F' N'; (try k_sweep))); (try dsimp only)) | (walk1; (try dsimp only)) | (dsimp only; walk1) | fail "no step")
  k_dflt (refine' krv_ints (s := { heap := h0, gens := s.gens, drawn := s.drawn, toks := _, os := s.os }) ?F ?N ?l ?k ?i ?_ ?s ?t ?z; (case F => exact F0); (case N => exact N1); (case l => exact News.isList N1 (.tail _ hT.g)); (case k => exact IsPart.int _ _); (case i => exact hgv); (case s => with_unfolding_all rfl); (case t => kmk_pure); (case z => rw [List.size_toArray, sizeLine_eq]; omega))
  intro Rv rv h2 F2 N2 l2 hI2 hC2
  dsimp only
  have l2D := l2 _ (.head _)
  have l2t : ∀ p ∈ tl, p.1 < Rv := fun p hp => l2 p (.tail _ hp)
  have freshS : ∀ a, g'.get? a = none → @Ne Nat a G → @Ne Nat a W → s.heap.get? a = none := by
    intro a ha h1 h2
    cases z : s.heap.get? a with
    | none => rfl
    | some o =>
      have := hin a o z (by simp only [List.map_cons, List.map_nil, List.mem_cons, List.not_mem_nil, or_false, not_or]; exact ⟨h1, h2⟩)
      rw [ha] at this; cases this
  refine iter_invGL (DueJ s.heap G W B D Rv gv wv bv rv n nw 0 0 gl.reverse k) rfl (l := Rv) (vs := rv) (nn := 0) (news := (D, listOf #[] 0) :: (Rv, listOf rv.toArray 0) :: tl) (.tail _ (.head _)) hI2 F2 (fun p hp => N2 p ?pm) ?j0 ?jl ?turn ?done
  case pm =>
    rcases List.mem_cons.mp hp with rfl | hp
    · exact .tail _ (.head _)
    rcases List.mem_cons.mp hp with rfl | hp
    · exact .head _
    · exact .tail _ (.tail _ hp)
  case j0 =>
    refine ⟨[], 0, _, [], kt, rfl, ⟨.tail _ hT.g, .tail _ hT.wd, .tail _ hT.bh, ?_, fun j hj => ?_⟩, .head _, (fun p hp => absurd hp (List.not_mem_nil)), .nil, rfl, rfl, rfl, rfl⟩
    · intro p hp
      rcases List.mem_cons.mp hp with rfl | hp
      · exact Nat.ne_of_gt l2D
      · exact hT.off p hp
    · obtain ⟨a, vs, e1, e2, e3⟩ := hT.bs j hj
      exact ⟨a, vs, e1, .tail _ e2, e3⟩
  case jl =>
    rintro i m nx ⟨dv, nD, tl', nl, kt', rfl, _, hR, _⟩
    exact .tail _ hR
  case turn =>
    rintro i g t m₁ news₁ h3 tk3 I oI hgi hIc hIoff ⟨dv, nD, tl', nl, kt', rfl, hT', hR', hnl, hda, mk, md, mbh, mwd⟩ F3 N3
    have hkk : (runT (gl.reverse.take i).reverse k).2 < 9 := runT_lt _ _ hk
    have hstep : (gl.reverse.take (i + 1)).reverse = g :: (gl.reverse.take i).reverse := by
      rw [List.take_add_one, hgi]; simp
    have hg12 : 0 ≤ g ∧ g ≤ 12 := hgl g (by have := List.mem_of_getElem? hgi; simpa using this)
    have hdl : dv.length ≤ 50 := by
      have h1 := hda.length
      rw [List.length_map] at h1
      have h2 := runT_len (gl.reverse.take i).reverse k
      have h3 := hgv.length
      simp only [List.length_reverse, List.length_take] at h2
      omega
    unfold DueJ
    rw [hstep]
    simp only [runT]
    generalize hrr : runT (gl.reverse.take i).reverse k = rr at *
    obtain ⟨rows, kk⟩ := rr
    dsimp only at hkk hda mk ⊢
    obtain ⟨wv1, hwv1, hwd1⟩ := hws kk hkk
    obtain ⟨ba, bl, hb1, hbm, hbd⟩ := hT'.bs kk hkk
    have hoff := hT'.off
    have hWm := hT'.wd
    have hBm := hT'.bh
    have hID : @Ne Nat I D := Ne.symm (hIoff _ (.head _))
    have hvl : bl.length ≤ 3 := by rw [hbd.length]; exact behind_len kk
    clear hT hws F0 N1 F2 N2 hI2 hgv hgl h hrr hgi
    repeat' (first | (with_reducible refine execs_one ?_; (try dsimp only)) | ((with_reducible ((with_reducible show wpAny _ _ (eval (PySem.Expr.Name _ _) _) _ _ _); k_dflt (refine ld (by k_asm) (by first | exact rfl | assumption) ?_))); (try dsimp only)) | ((with_reducible ((with_reducible show wpAny _ _ (subscriptTail _ _ (Value.ref _) (Value.int _ _)) _ _ _); k_dflt (refine item_listL (by kmk_list) (by omega) (by omega) (by rw [Int.toNat_natCast]; assumption) ?_))); (try dsimp only)) | ((with_reducible ((with_reducible show wpAny _ _ (binaryOp _ (Value.ref _) (Value.ref _)) _ _ _); k_dflt (refine kmk_add_lit (by k_asm) (by k_asm) (by kmk_list) (by kmk_list) (by rw [List.toList_toArray, List.toList_toArray]) ?_ (by simp only [List.toList_toArray, List.length_cons, List.length_nil]; rw [sizeLine_eq]; omega)); intro D' h' F' N' l1; (try dsimp only [List.cons_append, List.nil_append] at N'); (try k_lt l1); (try k_sweep))); (try dsimp only)) | ((with_reducible ((try dsimp only [List.nil_append, List.cons_append]); (with_reducible show wpAny _ _ (call (Value.builtin "list.append") [Value.ref _, _]) _ _ _); k_dflt (refine append_K (by k_asm) (by k_asm) (by k_upd) ?_ (by rw [List.size_toArray, sizeLine_eq]; omega)); intro h' F' N'; (try k_sweep))); (try dsimp only)) | (walk1; (try dsimp only)) | (dsimp only; walk1) | fail "no step")
    · rename_i F5 N5
      have lq := l1
      have tk1 : takes g kk = true := by rw [← takes_in (by assumption)]; assumption
      simp only [tk1, if_true]
      exact due_yes hkk hg12 F5 N5 lq.2.2.1 lq.2.2.2.1 lq.2.2.2.2 hT' hR' hnl hda hwd1 hbd freshS hIoff rfl md mbh mwd
    · rename_i F5 N5 a2 a1 a0
      have tk1 : takes g kk = false := by
        rw [← takes_in (by assumption)]
        first | assumption | exact Bool.eq_false_iff.mpr (by assumption) | (trace_state; fail "no")
      simp only [tk1, if_false, Bool.false_eq_true]
      exact due_no F5 N5 hT' hR' hnl hda hIoff mk md mbh mwd
    · rename_i F5 N5
      have lq := l1
      have tk1 : takes g kk = true := by rw [← takes_out (by omega)]; assumption
      simp only [tk1, if_true]
      exact due_yes hkk hg12 F5 N5 lq.2.2.1 lq.2.2.2.1 lq.2.2.2.2 hT' hR' hnl hda hwd1 hbd freshS hIoff rfl md mbh mwd
    · rename_i F5 N5 a2 a1 a0
      have tk1 : takes g kk = false := by
        rw [← takes_out (by omega)]
        first | assumption | exact Bool.eq_false_iff.mpr (by assumption) | (trace_state; fail "no")
      simp only [tk1, if_false, Bool.false_eq_true]
      exact due_no F5 N5 hT' hR' hnl hda hIoff mk md mbh mwd
  case done =>
    rintro m₁ news₁ h4 tk4 ⟨dv, nD, tl', nl, kt', rfl, hT', hR', hnl, hda, mk, md, mbh, mwd⟩ F4 N4
    rw [List.take_length, List.reverse_reverse] at hda mk
    have hkk : (runT gl k).2 < 9 := runT_lt _ _ hk
    have hdl : dv.length ≤ 50 := by
      have h1 := hda.length
      rw [List.length_map] at h1
      have h2 := runT_len gl k
      have h3 := hgv.length
      omega
    generalize hrr : runT gl k = rr at hkk hda mk h
    obtain ⟨rows, kk⟩ := rr
    dsimp only at hkk hda mk h ⊢
    obtain ⟨wv1, hwv1, hwd1⟩ := hws kk hkk
    obtain ⟨ba, bl, hb1, hbm, hbd⟩ := hT'.bs kk hkk
    have hoff := hT'.off
    have hWm := hT'.wd
    have hBm := hT'.bh
    have hvl : bl.length ≤ 3 := by rw [hbd.length]; exact behind_len kk
    clear hT hws F0 N1 F2 N2 hI2 hgv hgl hrr
    repeat' (first | (k_unfold; (try dsimp only)) | (with_reducible refine execs_one ?_; (try dsimp only)) | ((with_reducible ((with_reducible show wpAny _ _ (eval (PySem.Expr.Name _ _) _) _ _ _); k_dflt (refine ld (by k_asm) (by first | exact rfl | assumption) ?_))); (try dsimp only)) | ((with_reducible ((with_reducible show wpAny _ _ (subscriptTail _ _ (Value.ref _) (Value.int _ _)) _ _ _); k_dflt (refine item_listL (by kmk_list) (by omega) (by omega) (by rw [Int.toNat_natCast]; assumption) ?_))); (try dsimp only)) | ((with_reducible ((with_reducible show wpAny _ _ (binaryOp _ (Value.ref _) (Value.ref _)) _ _ _); k_dflt (refine kmk_add_lit (by k_asm) (by k_asm) (by kmk_list) (by kmk_list) (by rw [List.toList_toArray, List.toList_toArray]) ?_ (by simp only [List.toList_toArray, List.length_cons, List.length_nil]; rw [sizeLine_eq]; omega)); intro D' h' F' N' l1; (try dsimp only [List.cons_append, List.nil_append] at N'); (try k_lt l1); (try k_sweep))); (try dsimp only)) | ((with_reducible ((try dsimp only [List.nil_append, List.cons_append]); (with_reducible show wpAny _ _ (call (Value.builtin "list.append") [Value.ref _, _]) _ _ _); k_dflt (refine append_K (by k_asm) (by k_asm) (by k_upd) ?_ (by rw [List.size_toArray, sizeLine_eq]; omega)); intro h' F' N'; (try k_sweep))); (try dsimp only)) | (walk1; (try dsimp only)) | (dsimp only; walk1) | fail "no step")
    rename_i l1a h1a q1a Drow h2a q2a l3 h3a q3a
    have nR := N' _ (.tail _ (.tail _ (.head _)))
    have nM : ∀ p ∈ tl', h'.get? p.1 = some p.2 := fun p hp => (N' p (.tail _ (.tail _ (.tail _ (.tail _ (.tail _ hp)))))).1
    refine h h' D' (dv ++ [.ref Drow]) 0 ((Drow, listOf (.int 13 tk4 :: wv1 :: .int kk kt' :: bl).toArray 0) :: nl) _ (fun b o hb => ?_) (N' _ (.head _)).1 (fun p hp => ?_) ?_ ?_
    · by_cases z1 : b = G
      · rw [z1] at hb ⊢; rw [hG] at hb; rw [← hb]; exact nM _ hT'.g
      by_cases z2 : b = W
      · rw [z2] at hb ⊢; rw [hW] at hb; rw [← hb]; exact nM _ hT'.wd
      exact F'.keep b o (hin b o hb (by simp only [List.map_cons, List.map_nil, List.mem_cons, List.not_mem_nil, or_false, not_or]; exact ⟨z1, z2⟩))
    · rcases List.mem_cons.mp hp with rfl | hp
      · exact ⟨nR.1, freshS _ nR.2.2 (Nat.ne_of_gt (allLt_mem q2a.2.2 _ hT'.g)) (Nat.ne_of_gt (allLt_mem q2a.2.2 _ hT'.wd))⟩
      · exact ⟨nM p (hnl p hp).1, (hnl p hp).2⟩
    · exact freshS _ (N' _ (.head _)).2.2 (Nat.ne_of_gt (allLt_mem l1.2.2.2.2 _ hT'.g)) (Nat.ne_of_gt (allLt_mem l1.2.2.2.2 _ hT'.wd))
    · rw [List.map_append]
      refine DatAll.append (hda.mono fun p hp => .tail _ hp) (.one (.list (.head _) ?_))
      exact .cons (.int _ _) (.cons (hwd1.mono fun _ z => absurd z (List.not_mem_nil)) (.cons (.int _ _) (hbd.mono fun _ z => absurd z (List.not_mem_nil))))

end Mine

end
section -- L2p
set_option maxRecDepth 100000
set_option maxHeartbeats 1000000
set_option linter.unusedVariables false
namespace Mine
open PySem PySem.W PySem.Calls PyProof.Rows PySem.Builtin
section
variable {prog : Program} {w : World} {A : Around} {E : Value → Shared → Prop} {s : Shared} {base : Heap} {K : Frag} {outer : List Env} {env : Env} {L e C : Addr} {ar tb ctx c : Value} {d : Option Addr} {m : Str → Option Value} {x n : Str} {np pos : Pos} {Q : Flow → Shared → Prop}
/-- the clause takes it; any frame -/
theorem try_hitG {b₀ : Stmt} {suite : List Stmt} (hL : env.locals = L) (hfL : env.frame = some L) (hfr : A.frames = some (env :: outer)) (hl : s.heap.FunFrames base (env :: outer)) (he : s.heap.get? e = some (excObj C d ar tb ctx)) (hF : Fly base s.heap e tb .none) (hst : base.StaysIn s.heap) (hen : base.get? e = none)
    (hns : s.heap.Ns L m) (hLb : base.objs.size ≤ L) (X : K.In base)
    (hname : ∀ {A : Around} {E : Value → Shared → Prop} {Q : Value → Shared → Prop} {s : Shared}, Fr base L s.heap m → Q c s → wpAny (model prog w) A (eval (.Name x np) env) Q E s) (hm : exmOne K (.ref C) c = some true) (hLe : L ≠ e)
    (h : ∀ h' tb', h'.get? e = some (excObj C d ar tb' ctx) → Fly base h' e tb' .none → Kept ((env :: outer).filterMap (·.frame)) [e, L] s.heap h' → base.StaysIn h' → h'.Ns L (fun y => if y = n then some (.ref e) else m y) →
      wpAny (model prog w) (A.mark (some (.ref e))) (execs (b₀ :: suite) env)
        (fun f s₄ => wpAny (model prog w) A (do bindName env n .none; unbindBehindTheSuite env n pos) (fun _ s₅ => Q f s₅) E s₄)
        (AsSuiteRaised (model prog w) (A.mark (some (.ref e))) env n pos (notedBy (model prog w) (A.mark (some (.ref e))) env (cameBackBy (model prog w) A env E))) { s with heap := h', toks := s.toks + 1 })
    (hk : env.scope.kind = .function) (hlo : env.kindOf n = some .local) :
    wpAny (model prog w) A (noteFrame (.ref e) env) (fun _ s₂ => wpAny (model prog w) A (setFlight (.ref e) none) (fun _ s₃ => wpAny (model prog w) A (handleBy (.ref e) env [.ExceptHandler (some (.Name x np)) (some n) (b₀ :: suite) pos]) Q E s₃) E s₂) E s := by
  subst hL
  refine note_next hfr hl hfL he hF hst hen fun h₁ tb₁ a1 a2 a3 a4 => ?_
  refine flight_set (s := { s with heap := h₁ }) (fr := none) a1 a2 a4 ((env :: outer).filterMap (·.frame)) fun h₂ b1 b2 b3 b4 => ?_
  have k2 := a3.trans b3
  have ns2 := k2.ns hns (by simp [hLe])
  have F2 : Fr base env.locals h₂ m := ⟨ns2, b4, hLb⟩
  refine wpAny_handleBy_cons (codeAny_handlers_test (hname (s := { s with heap := h₂ }) F2 ?_)) (by intro q; cases q)
  have t1 : Looks (model prog w) ({ s with heap := h₂ } : Shared).heap (typeOf (.ref e)) (.ref C) := (Looks.ld b1).andThen .now
  refine (exm_one (X.keeps b4) t1 hm).here ?_
  refine codeAny_handlers_suite_as ?_
  refine flight_set (s := { s with heap := h₂ }) (fr := none) b1 b2 b4 ((env :: outer).filterMap (·.frame)) fun h₃ c1 c2 c3 c4 => ?_
  have k3 := k2.trans c3
  have ns3 := k3.ns hns (by simp [hLe])
  refine wpAny_storeName_local hlo ns3 (fun h₄ hn₄ hs₄ => ?_) (by rw [hk]; rfl)
  have hbL : base.get? env.locals = none := Heap.get?_none_of_le hLb
  refine h h₄ tb₁ ((hs₄.2 e (Ne.symm hLe)).trans c1) ?_ ((k3.mono (fun _ q => q) (fun _ q => List.mem_cons.mpr (.inl (List.mem_singleton.mp q)))).trans (Kept.same hs₄ (by show env.locals ∈ [e, env.locals]; simp))) (stays_same hs₄ c4 hbL) hn₄
  obtain ⟨T', oT, ts, rfl, hTe, hTb, hT, hTc, hTd, h3⟩ := c2
  refine ⟨T', oT, ts, rfl, hTe, hTb, (hs₄.2 T' fun q => ?_).trans hT, hTc, hTd, h3⟩
  obtain ⟨o, es, ep, ho, hdd, _⟩ := ns3
  rw [q] at hT
  have : some o = some oT := ho.symm.trans hT
  injection this with this
  subst this
  rw [hdd] at hTd; cases hTd
end
end Mine

end
section -- L2q
set_option maxRecDepth 100000
set_option maxHeartbeats 1000000
set_option linter.unusedVariables false
namespace Mine
open PySem PySem.W PySem.Calls PyProof.Rows PySem.Builtin
section
variable {prog : Program} {w : World} {A : Around} {E : Value → Shared → Prop} {K : Frag} {s : Shared} {base : Heap} {p : Program} {loose : List Str} {mean : ExcName → Option Value} {mg mb : Str → Option Value} {name : Str} {scope : Scope} {L a : Addr} {cd : Value} {cl : List (Str × Addr)} {m : Str → Option Value} {Q : Flow → Shared → Prop}
theorem RowsAt.data {h0 h : Heap} : ∀ {as : List Addr} {rs : List (List Dat)}, RowsAt h0 h as rs → ∃ nl : List (Addr × Obj), (∀ p ∈ nl, ∃ xs, p.2 = listOf xs 0 ∧ h.get? p.1 = some p.2 ∧ New h0 p.1) ∧ DatAll nl (as.map Value.ref) (rs.map Dat.list)
  | [], [], _ => ⟨[], (fun p hp => absurd hp List.not_mem_nil), .nil⟩
  | a :: as, r :: rs, ⟨⟨rv, h1, h2, h3⟩, x⟩ => by
    obtain ⟨nl, k1, k2⟩ := RowsAt.data x
    refine ⟨(a, listOf rv.toArray 0) :: nl, fun p hp => ?_, .cons (.list (.head _) (h2.mono fun _ z => absurd z List.not_mem_nil)) (k2.mono fun _ z => .tail _ z)⟩
    rcases List.mem_cons.mp hp with rfl | hp
    · exact ⟨_, rfl, h1, h3⟩
    · exact k1 p hp
  | [], _ :: _, x => x.elim
  | _ :: _, [], x => x.elim
theorem law_try {g : Heap} {q G : Addr} {gv : List Value} {nG dp un : Nat} {gs : Option (List Code)} {gl : List Int} {k : Nat} {kt : Tok} {rest : List (Addr × Obj)} {b₀ : Stmt} {suite : List Stmt} {np pos hp p1 p2 p3 p4 p5 p6 : Pos}
    (hk : k < 9) (hgl : ∀ g ∈ gl, 0 ≤ g ∧ g ≤ 12) (hgv : DatAll [] gv (gl.map Dat.int)) (hlen : gl.length ≤ 20) (hdp : dp ≤ 400) (hun : un ≤ 1000)
    (X : (hd.heap_39 w.params).In g) (T : Top hd.view_39 loose mean mg mb g)
    (F : Fr g L s.heap m) (N : News g L s.heap ((q, listOf #[] 0) :: (G, listOf gv.toArray nG) :: rest)) (hqG : @Ne Nat q G) (hoff : ∀ p ∈ rest, @Ne Nat p.1 q) (hnt : ∀ p ∈ rest, ¬ isTb p.2)
    (m1 : m "guards" = some (.ref G)) (m2 : m "kind" = some (.int k kt)) (m3 : m "told" = some (.ref q))
    (h : ∀ h' e d t tb ctx es ne mv tk0 vs rv n' tk' nl tl, Fr g L h' (fun y => if y = "last" then some (.ref e) else m y) →
      News g L h' ((q, listOf rv.toArray n') :: (e, excObj (clsOf (runT gl k).2) (some d) (.ref t) tb ctx) :: (d, dictOf es ne) :: (t, tupObj (.int (runT gl k).2 tk0 :: vs)) :: tl) →
      getL "message" es = some (some mv) → DatIn [] mv (msgOf (runT gl k).2) → DatAll [] vs (behindOf (runT gl k).2) → (∀ p ∈ tl, @Ne Nat p.1 q) → (G, listOf gv.toArray nG) ∈ tl → (∀ p ∈ rest, p ∈ tl) → (∀ p ∈ nl, p ∈ tl) →
      DatAll nl rv ((runT gl k).1.map Dat.list) → rv.length ≤ 20 → (@Ne Nat q e ∧ @Ne Nat q d ∧ @Ne Nat q t ∧ @Ne Nat e d ∧ @Ne Nat e t ∧ @Ne Nat d t) →
      wpAny (model prog w) ((Around.deeper ⟨none, dp, some [], gs, un⟩ (envX name scope L a cd cl)).mark (some (.ref e))) (execs (b₀ :: suite) (envX name scope L a cd cl))
        (fun f s₄ => wpAny (model prog w) (Around.deeper ⟨none, dp, some [], gs, un⟩ (envX name scope L a cd cl)) (do bindName (envX name scope L a cd cl) "last" .none; unbindBehindTheSuite (envX name scope L a cd cl) "last" hp) (fun _ s₅ => Q f s₅) E s₄)
        (AsSuiteRaised (model prog w) ((Around.deeper ⟨none, dp, some [], gs, un⟩ (envX name scope L a cd cl)).mark (some (.ref e))) (envX name scope L a cd cl) "last" hp (notedBy (model prog w) ((Around.deeper ⟨none, dp, some [], gs, un⟩ (envX name scope L a cd cl)).mark (some (.ref e))) (envX name scope L a cd cl) (cameBackBy (model prog w) (Around.deeper ⟨none, dp, some [], gs, un⟩ (envX name scope L a cd cl)) (envX name scope L a cd cl) E))) { s with heap := h', toks := tk' })
    (hkd : scope.kind = .function) (ka : (envX name scope L a cd cl).kindOf "_law_through" = some .globalImplicit) (kc : (envX name scope L a cd cl).kindOf "guards" = some .local) (kd : (envX name scope L a cd cl).kindOf "kind" = some .local)
    (ke : (envX name scope L a cd cl).kindOf "told" = some .local) (kg : (envX name scope L a cd cl).kindOf "last" = some .local) (kx : (envX name scope L a cd cl).kindOf "Error" = some .globalImplicit)
    (hi : interactive (envX name scope L a cd cl) = false)
    (hs1 : swapsWith (.Call (.Name "_law_through" p1) [.Name "guards" p2, .Name "kind" p3, .Name "told" p4] [] p5) none p6.line (envX name scope L a cd cl) = pure false) :
    wpAny (model prog w) (Around.deeper ⟨none, dp, some [], gs, un⟩ (envX name scope L a cd cl))
      (exec (.Try [.Expr (.Call (.Name "_law_through" p1) [.Name "guards" p2, .Name "kind" p3, .Name "told" p4] [] p5) p6] [.ExceptHandler (some (.Name "Error" np)) (some "last") (b₀ :: suite) hp] [] [] pos) (envX name scope L a cd cl)) Q E s := by
  have hbL : g.get? L = none := Heap.get?_none_of_le F.above
  have hff : s.heap.FunFrames g [envX name scope L a cd cl] := .cons (by show scope.kind ≠ .module; rw [hkd]; decide) rfl F.ns hbL trivial
  have gq := N _ (.head _)
  have gG := N _ (.tail _ (.head _))
  have memL : L ∈ [envX name scope L a cd cl].filterMap (·.frame) := .head _
  have onlyL : ∀ b, @Ne Nat b L → b ∉ [envX name scope L a cd cl].filterMap (·.frame) := fun b hb z => by
    rcases List.mem_cons.mp z with z | z
    · exact hb z
    · cases z
  refine wpAny_Try_except ?_
  refine call3X (fa := 210) F X (topRead_of T) (by kernel_rfl) (by kernel_rfl) m1 m2 m3 ?_ hkd ka kc kd ke (by decide) (by decide) (by decide) (by decide) hi hs1
  refine thru_all prog w gl (s := s) (dp := dp + 1) (un := un + 3) (l := [envX name scope L a cd cl]) (its := []) hk hgl hgv F.keep hff X T (by omega) (by omega) ?_ gq.1 gG.1 (by simp only [List.length_nil]; omega) hqG ?_ ?_
  · exact Nat.le_of_lt (Nat.lt_of_le_of_lt F.above F.ns.lt)
  · intro b hb
    simp only [List.mem_cons, List.not_mem_nil, or_false] at hb
    rcases hb with rfl | rfl
    · exact ⟨gq.2.2, onlyL _ gq.2.1⟩
    · exact ⟨gG.2.2, onlyL _ gG.2.1⟩
  intro h' e' d' t' tb' ctx' rs n' tk' r K1 st1 q1 rows1 err1 fly1 ctx1 nd1 NE Nd Nt Nb
  refine ⟨_, rfl, ?_⟩
  have hk1 := runT_lt gl k hk
  have hrl := runT_len gl k
  have rlen := rows1.length
  obtain ⟨nl, hnl, hda⟩ := rows1.data
  have qfr := onlyL _ gq.2.1
  have hqL : L ≠ q := Ne.symm gq.2.1
  have ff1 : h'.FunFrames g [envX name scope L a cd cl] := K1.funFrames hff fun b hb z => qfr (by rw [List.mem_singleton.mp z] at hb; exact hb)
  have ns1 : h'.Ns L m := K1.ns F.ns (by simp [hqL])
  have ef1 := NE.frames hff
  have df1 := Nd.frames hff
  have tf1 := Nt.frames hff
  have eL : L ≠ e' := fun z => ef1 (z ▸ memL)
  have dL : L ≠ d' := fun z => df1 (z ▸ memL)
  have tL : L ≠ t' := fun z => tf1 (z ▸ memL)
  have de : d' ≠ e' := fun z => by obtain ⟨es, n, hd, _⟩ := err1.di; rw [z, err1.ex] at hd; cases hd
  have te : t' ≠ e' := fun z => by obtain ⟨es, n, hd, _⟩ := err1.tu; rw [z, err1.ex] at hd; cases hd
  have qe : q ≠ e' := fun z => by rw [z, err1.ex] at q1; cases q1
  refine try_hitG (s := { s with heap := h', toks := tk' }) rfl rfl rfl ff1 err1.ex fly1 st1 Nb.1 ns1 F.above X (fun F' hq => nameX_K F' X (topRead_of T) (by kernel_rfl) hq hkd kx (by decide)) (c := .ref 39) ?hm eL (fun h2 tb2 a1 a2 a3 a4 a5 => ?_) hkd kg
  case hm =>
    rw [(tab_1 _).1 _ hk1]
    rfl
  have err2 : ErrAt (runT gl k).2 h2 e' d' t' tb2 ctx' := err1.kept a3 a1 (by simp [de]; exact Ne.symm dL) (by simp [te]; exact Ne.symm tL) df1 tf1
  have hq2 : h2.get? q = some (listOf (rs.map Value.ref).toArray n') := a3.get q1 (by simp [qe]; exact Ne.symm hqL) notTbL qfr
  obtain ⟨es, ne, hd2, mv, hmsg, hmv⟩ := err2.di
  obtain ⟨tk0, vs, ht2, hvs⟩ := err2.tu
  have old : ∀ p ∈ (G, listOf gv.toArray nG) :: rest, h2.get? p.1 = some p.2 ∧ p.1 ≠ L ∧ g.get? p.1 = none := fun p hp => by
    have np := N p (.tail _ hp)
    have hnt' : ¬ isTb p.2 := by
      rcases List.mem_cons.mp hp with rfl | hp
      · exact notTbL
      · exact hnt p hp
    have pq : p.1 ≠ q := by
      rcases List.mem_cons.mp hp with rfl | hp
      · exact fun z => hqG z.symm
      · exact hoff p hp
    have pf := onlyL _ np.2.1
    have h1 := K1.get np.1 (by simpa using pq) hnt' pf
    have pe : p.1 ≠ e' := fun z => NE.ne np.1 hnt' z.symm
    exact ⟨a3.get h1 (by simp only [List.mem_cons, List.not_mem_nil, or_false, not_or]; exact ⟨pe, np.2.1⟩) hnt' pf, np.2⟩
  have rowsN : ∀ p ∈ nl, h2.get? p.1 = some p.2 ∧ p.1 ≠ L ∧ g.get? p.1 = none := fun p hp => by
    obtain ⟨xs, e1, e2, e3⟩ := hnl p hp
    have pf := e3.frames hff
    have pL : p.1 ≠ L := fun z => pf (z ▸ memL)
    have hnt' : ¬ isTb p.2 := by rw [e1]; exact notTbL
    have pe : p.1 ≠ e' := fun z => by rw [z, err1.ex, e1] at e2; cases e2
    refine ⟨a3.get e2 (by simp only [List.mem_cons, List.not_mem_nil, or_false, not_or]; exact ⟨pe, pL⟩) hnt' pf, pL, ?_⟩
    cases z : g.get? p.1 with
    | none => rfl
    | some o =>
      have k1 := e3 o (F.keep _ _ z)
      have k2 := st1 _ _ z
      rw [e2] at k2; injection k2 with k2
      exact absurd (k2 ▸ k1) hnt'
  refine h h2 e' d' t' tb2 ctx' es ne mv tk0 vs (rs.map Value.ref) n' (tk' + 1) nl ((G, listOf gv.toArray nG) :: (nl ++ rest)) ⟨a5, a4, F.above⟩ ?_ hmsg hmv hvs ?_ (.head _) (fun p hp => .tail _ (List.mem_append_right _ hp)) (fun p hp => .tail _ (List.mem_append_left _ hp)) hda ?_ ?_
  · intro p hp
    rcases List.mem_cons.mp hp with rfl | hp
    · exact ⟨hq2, gq.2⟩
    rcases List.mem_cons.mp hp with rfl | hp
    · exact ⟨a1, Ne.symm eL, Nb.1⟩
    rcases List.mem_cons.mp hp with rfl | hp
    · exact ⟨hd2, Ne.symm dL, Nb.2.1⟩
    rcases List.mem_cons.mp hp with rfl | hp
    · exact ⟨ht2, Ne.symm tL, Nb.2.2⟩
    rcases List.mem_cons.mp hp with rfl | hp
    · exact old _ (.head _)
    rcases List.mem_append.mp hp with hp | hp
    · exact rowsN p hp
    · exact old _ (.tail _ hp)
  · intro p hp
    rcases List.mem_cons.mp hp with rfl | hp
    · exact Ne.symm hqG
    rcases List.mem_append.mp hp with hp | hp
    · obtain ⟨xs, e1, e2, e3⟩ := hnl p hp
      exact e3.ne gq.1 notTbL
    · exact hoff p hp
  · rw [List.length_map, rlen]; omega
  · exact ⟨ne_cls hq2 a1 (by simp), ne_cls hq2 hd2 (by simp), ne_cls hq2 ht2 (by simp), ne_cls a1 hd2 (by simp), ne_cls a1 ht2 (by simp), ne_cls hd2 ht2 (by simp)⟩
end
end Mine

end
section -- L2r
set_option maxRecDepth 100000
set_option maxHeartbeats 1000000
set_option linter.unusedVariables false
namespace Mine
open PySem PySem.W PySem.Calls PyProof.Rows PySem.Builtin
theorem okRow (g : Int) (j : Nat) (h : j < 9) : kqdOk 8 (.list (rowOf g j)) = true := by
  match j, h with
  | 0, _ => rfl
  | 1, _ => simp only [kqdOk, rowOf, msgOf, behindOf, List.all_cons, List.all_nil, Bool.and_true, Bool.true_and]; decide +kernel
  | 2, _ => simp only [kqdOk, rowOf, msgOf, behindOf, List.all_cons, List.all_nil, Bool.and_true, Bool.true_and]; decide +kernel
  | 3, _ => simp only [kqdOk, rowOf, msgOf, behindOf, List.all_cons, List.all_nil, Bool.and_true, Bool.true_and]; decide +kernel
  | 4, _ => simp only [kqdOk, rowOf, msgOf, behindOf, List.all_cons, List.all_nil, Bool.and_true, Bool.true_and]; decide +kernel
  | 5, _ => simp only [kqdOk, rowOf, msgOf, behindOf, List.all_cons, List.all_nil, Bool.and_true, Bool.true_and]; decide +kernel
  | 6, _ => simp only [kqdOk, rowOf, msgOf, behindOf, List.all_cons, List.all_nil, Bool.and_true, Bool.true_and]; decide +kernel
  | 7, _ => simp only [kqdOk, rowOf, msgOf, behindOf, List.all_cons, List.all_nil, Bool.and_true, Bool.true_and]; decide +kernel
  | 8, _ => simp only [kqdOk, rowOf, msgOf, behindOf, List.all_cons, List.all_nil, Bool.and_true, Bool.true_and]; decide +kernel
theorem runT_rows (k : Nat) (hk : k < 9) : ∀ (l : List Int), ∀ r ∈ (runT l k).1, ∃ g j, j < 9 ∧ r = rowOf g j
  | [], r, h => absurd h List.not_mem_nil
  | g :: l, r, h => by
    rw [runT] at h
    split at h
    · rcases List.mem_append.mp h with h | h
      · exact runT_rows k hk l r h
      · exact ⟨g, _, runT_lt l k hk, List.mem_singleton.mp h⟩
    · exact runT_rows k hk l r h
theorem okRows (k : Nat) (hk : k < 9) (l : List Int) : ∀ d ∈ ((runT l k).1 ++ [rowOf 13 (runT l k).2]).map Dat.list, kqdOk 8 d = true := fun d hd => by
  obtain ⟨r, hr, rfl⟩ := List.mem_map.mp hd
  rcases List.mem_append.mp hr with h | h
  · obtain ⟨g, j, hj, rfl⟩ := runT_rows k hk l r h
    exact okRow g j hj
  · rw [List.mem_singleton.mp h]
    exact okRow 13 _ (runT_lt l k hk)
section
variable {prog : Program} {w : World} {A : Around} {E : Value → Shared → Prop} {K : Frag} {s : Shared} {base : Heap} {p : Program} {loose : List Str} {mean : ExcName → Option Value} {mg mb : Str → Option Value} {L a : Addr} {m : Str → Option Value}
/-- _law_due as a step of the law's walk -/
theorem due_K {Q : Value → Shared → Prop} {g : Heap} {env : Env} {G W : Addr} {gv wv : List Value} {n nw dp un : Nat} {gs : Option (List Code)} {gl : List Int} {k : Nat} {kt : Tok} {news : List (Addr × Obj)}
    (hk : k < 9) (hgl : ∀ g ∈ gl, 0 ≤ g ∧ g ≤ 12) (hgv : IntsAre gv gl) (hlen : gv.length ≤ 50) (hdp : dp ≤ 600) (hun : un ≤ 1000)
    (hws : ∀ j, j < 9 → ∃ v, wv[j]? = some v ∧ DatIn [] v (msgOf j))
    (X : (hd.heap_39 w.params).In g) (T : Top hd.view_39 loose mean mg mb g) (hf : env.frame = some L) (hke : env.scope.kind = .function)
    (F : Fr g L s.heap m) (N : News g L s.heap news) (hG : (G, listOf gv.toArray n) ∈ news) (hW : (W, listOf wv.toArray nw) ∈ news) (hGW : @Ne Nat G W)
    (h : ∀ h' D vals n' nl tk', Fr g L h' m → News g L h' ((D, listOf vals.toArray n') :: (nl ++ news)) → DatAll nl vals (((runT gl k).1 ++ [rowOf 13 (runT gl k).2]).map Dat.list) → Q (.ref D) { s with heap := h', toks := tk' }) :
    wpAny (model prog w) (Around.deeper ⟨none, dp, some [], gs, un⟩ env) (call (.ref 224) [.ref G, .int k kt, .ref W]) Q E s := by
  have hbL : g.get? L = none := Heap.get?_none_of_le F.above
  have hff : s.heap.FunFrames g [env] := .cons (by rw [hke]; decide) hf F.ns hbL trivial
  have onlyL : ∀ b, @Ne Nat b L → b ∉ [env].filterMap (·.frame) := fun b hb z => by
    rw [List.filterMap_cons, hf] at z
    rcases List.mem_cons.mp z with z | z
    · exact hb z
    · cases z
  have gG := N _ hG
  have gW := N _ hW
  refine wpAny_call (due_code (dp := dp + 1) (un := un + 3) (l := [env]) hk hgl hgv hlen hws F.keep hff X T (by omega) (by omega) gG.1 gW.1 hGW ?_ ?_)
  · intro b hb
    simp only [List.mem_cons, List.not_mem_nil, or_false] at hb
    rcases hb with rfl | rfl
    · exact ⟨gG.2.2, onlyL _ gG.2.1⟩
    · exact ⟨gW.2.2, onlyL _ gW.2.1⟩
  intro h' D vals n' nl tk' k1 k2 k3 k4 k5
  have fresh : ∀ b, s.heap.get? b = none → b ≠ L ∧ g.get? b = none := fun b hb => by
    refine ⟨fun z => ?_, ?_⟩
    · obtain ⟨o, _, _, ho, _⟩ := F.ns
      rw [z, ho] at hb; cases hb
    · cases z : g.get? b with
      | none => rfl
      | some o => rw [F.keep _ _ z] at hb; cases hb
  refine h h' D vals n' nl tk' ⟨F.ns.keeps k1, fun b o q => k1 b o (F.keep b o q), F.above⟩ (fun p hp => ?_) k5
  rcases List.mem_cons.mp hp with rfl | hp
  · exact ⟨k2, fresh _ k4⟩
  rcases List.mem_append.mp hp with hp | hp
  · exact ⟨(k3 p hp).1, fresh _ (k3 p hp).2⟩
  · exact ⟨k1 _ _ (N p hp).1, (N p hp).2⟩
theorem kqd_same {Q : Value → Shared → Prop} {h₀ : Heap} {a b : Addr} {news n₁ n₂ : List (Addr × Obj)} {oa ob : Obj} {xs ys : List Value} {ka kb : Nat} {ds : List Dat} (N : News h₀ L s.heap news) (ma : (a, oa) ∈ news) (ca : oa.cls = .type "list") (da : oa.data = .seq xs.toArray ka) (Da : DatAll n₁ xs ds) (sa : ∀ p ∈ n₁, p ∈ news)
    (mb : (b, ob) ∈ news) (cb : ob.cls = .type "list") (db : ob.data = .seq ys.toArray kb) (Db : DatAll n₂ ys ds) (sb : ∀ p ∈ n₂, p ∈ news)
    (ha : ∀ d ∈ ds, kqdOk 8 d = true) (hu : A.units + 64 < cLine) (h : Q (.bool false) s) : wpAny (model prog w) A (compareOp .NotEq (.ref a) (.ref b)) Q E s :=
  kqd_ne N ma ca da Da sa mb cb db Db sb ha ha hu (by simpa using h)
end
end Mine

end
open PySem PySem.W PyProof.Rows Mine
set_option maxRecDepth 100000
set_option maxHeartbeats 2000000
set_option linter.unusedVariables false
section Law
namespace Mine
theorem fr_congr {g h : Heap} {L : Addr} {m m' : Str → Option Value} (F : Fr g L h m) (e : m = m') : Fr g L h m' := e ▸ F
theorem for_F {prog : Program} {w : World} {A : Around} {E : Value → Shared → Prop} {s : Shared} {env : Env} {h₀ : Heap} {m : Str → Option Value} {Q : Flow → Shared → Prop} {x : Str} {px pos : Pos} {iter : Expr} {body : List Stmt} (F : Fr h₀ env.locals s.heap m) (hx : env.kindOf x = some .local)
    (hp : (env.scope.kind == .class || (env.scope.kind == .module && env.locals != env.globals)) = false)
    (h : wpAny (model prog w) A (eval iter env) (fun xv s₁ => wpAny (model prog w) A (pyIter xv) (fun it s₂ => LoopAtV prog w A h₀ env x body Q E it s₂) E s₁) E s)
    (hs : ∀ x, foldedSetIterable iter env x = pure x) (hE : PassesOwn (model prog w) A env E) :
    wpAny (model prog w) A (exec (.For (.Name x px) iter body [] pos) env) Q E s := For_invV h₀ hx hp h hs hE
def LawJ (c W T : Addr) (wv tv : List Value) (m : Str → Option Value) (nx : List (Addr × Obj)) : Prop :=
  ∃ oC tl, nx = (c, oC) :: tl ∧ (∃ v, oC.data = .cell v) ∧ (W, listOf wv.toArray 0) ∈ tl ∧ (T, listOf tv.toArray 0) ∈ tl ∧ (∀ p ∈ tl, @Ne Nat p.1 c) ∧ (∀ p ∈ tl, ¬ isTb p.2) ∧ m "words" = some (.ref W)
theorem pow13 (n : Nat) : (13:Int) ^ n ≠ 0 := Int.ne_of_gt (Int.pow_pos (by decide))
theorem law_end {g h : Heap} {L I c W T : Addr} {oI o : Obj} {wv tv : List Value} {m : Str → Option Value} {cv : Option Value} {s₁ : Shared} {tk : Nat} (F : Fr g L h m)
    (nI : h.get? I = some oI ∧ I ≠ L ∧ g.get? I = none) (nc : h.get? c = some o ∧ c ≠ L ∧ g.get? c = none) (nT : h.get? T = some (listOf tv.toArray 0) ∧ T ≠ L ∧ g.get? T = none) (nW : h.get? W = some (listOf wv.toArray 0) ∧ W ≠ L ∧ g.get? W = none)
    (hd : o.data = .cell cv) (Ic : @Ne Nat I c) (TI : @Ne Nat T I) (WI : @Ne Nat W I) (Tc : @Ne Nat T c) (Wc : @Ne Nat W c) (hm : m "words" = some (.ref W)) :
    EndL g L (LawJ c W T wv tv) I oI s₁ { s₁ with heap := h, toks := tk } := by
  refine ⟨h, tk, m, [(c, o), (T, listOf tv.toArray 0), (W, listOf wv.toArray 0)], rfl, F, fun p hp => ?_, fun p hp => ?_, o, _, rfl, ⟨_, hd⟩, by simp, by simp, fun p hp => ?_, fun p hp => ?_, hm⟩
  · simp only [List.mem_cons, List.not_mem_nil, or_false] at hp
    rcases hp with rfl | rfl | rfl | rfl
    · exact nI
    · exact nc
    · exact nT
    · exact nW
  · simp only [List.mem_cons, List.not_mem_nil, or_false] at hp
    rcases hp with rfl | rfl | rfl
    · exact Ne.symm Ic
    · exact TI
    · exact WI
  · simp only [List.mem_cons, List.not_mem_nil, or_false] at hp
    rcases hp with rfl | rfl
    · exact Tc
    · exact Wc
  · simp only [List.mem_cons, List.not_mem_nil, or_false] at hp
    rcases hp with rfl | rfl <;> exact notTbL
theorem off1_mem {d : Addr} {tl : List (Addr × Obj)} (h : LCg.Off1 d tl) : ∀ p ∈ tl, @Ne Nat p.1 d := by
  induction tl with
  | nil => intro p hp; cases hp
  | cons q r ih =>
    intro p hp
    rcases List.mem_cons.mp hp with rfl | hp
    · exact h.1
    · exact ih h.2 p hp
theorem push_seq (rv : List Value) (v : Value) (n : Nat) : (PySem.W.listOf (rv.toArray.push v) n).data = .seq (rv ++ [v]).toArray n := by simp [PySem.W.listOf]
theorem datInts {ys : List Value} {l : List Int} (h : IntsAre ys l) : DatAll [] ys (l.map Dat.int) := by
  induction h with
  | nil => exact .nil
  | cons i t _ ih => exact .cons (.int _ _) ih
theorem glOk (r : Nat) (l : List Int) : ∀ g ∈ l.map (fun k' : Int => if ¬(13:Int) ^ k'.toNat = 0 then ((r : Int).fdiv (13 ^ k'.toNat) + 5 * k').fmod 13 else k'), 0 ≤ g ∧ g ≤ 12 := by
  intro g hg
  obtain ⟨j, _, rfl⟩ := List.mem_map.mp hg
  rw [if_pos (pow13 _), Int.fmod_eq_emod_of_nonneg _ (by decide)]
  omega
end Mine
local macro_rules | `(tactic| k_all) => `(tactic| assumption)
local macro_rules | `(tactic| k_mem) => `(tactic| assumption)

theorem PySem.Challenge.cw_dv0002_02_holds : PySem.Challenge.rw_dv0002_02.Holds := by
  refine Mine.hd.ofLaw ?_
  k_go0
  all_goals try k_fold
  (rename Fr _ _ _ _ => FF); (rename CellsAre _ _ _ => XX)
  replace FF := fr_congr (m' := fun y => if y = "script" then some _ else none) FF rfl
  clear XX
  (rename _ = Data.cell _ => CC)
  replace CC := CC.trans (show Data.cell _ = Data.cell none from rfl)
  repeat' ((fail_if_success (with_reducible show wpAny _ _ (exec (Stmt.For _ _ _ _ _) _) _ _ _)); first | (k_unfold; (try dsimp only)) | (k_end; wrow_close) | walk1 | (dsimp only; walk1) | (dsimp only [List.nil_append, List.cons_append]; walk1) | (leave1; walk_say "STEP leave1"; try dsimp only) | fail "no step")
  rename_i g' L' h3 B' X' T' lf2 lf1 lf0 tkx h2 t3 k3 a3 t2 k2 a2 t1 k1 a1 t0 k0 a0 W h1 F' N' l1 Gc kX hh F9 N9
  clear qk ek lifted lf0 lf1 lf2 T' X' B' F' N' a3 a2 a1 a0
  rename_i w s₀ s₁ mg mb GR Y fa o pm doc ho hg KX X V GL T B TE TW wa wo M w8 w7 hcd ns hs hlay0 hL1 hr1 hl2 w5 w4 S vs w1 hL ra w1x r0 hI hr hc1 hcT K0 hD h₁ tk₁ oc N0
  clear FF N0 hD hcd hcT hr r0 w1x hs hlay0 hL1 hr1 hl2 GR Y V TE TW B X GL M
  obtain ⟨wv, N1, hws, hwl⟩ : ∃ wv : List Value, News s₁.heap s₁.heap.objs.size hh [(W, PySem.W.listOf wv.toArray 0), (s₁.heap.objs.size + 1, oc)] ∧ (∀ j, j < 9 → ∃ v, wv[j]? = some v ∧ DatIn [] v (msgOf j)) ∧ wv.length = 9 := by
    refine ⟨_, N9, fun j hj => ?_, rfl⟩
    match j, hj with
    | 0, _ => exact ⟨_, rfl, .int _ _⟩
    | 1, _ => exact ⟨_, rfl, .str _ _⟩
    | 2, _ => exact ⟨_, rfl, .str _ _⟩
    | 3, _ => exact ⟨_, rfl, .str _ _⟩
    | 4, _ => exact ⟨_, rfl, .str _ _⟩
    | 5, _ => exact ⟨_, rfl, .str _ _⟩
    | 6, _ => exact ⟨_, rfl, .str _ _⟩
    | 7, _ => exact ⟨_, rfl, datStr (by decide +kernel)⟩
    | 8, _ => exact ⟨_, rfl, datStr (by decide +kernel)⟩
  clear N9
  have hc2 : ns.length ≤ 63 := by omega
  refine for_F (h₀ := s₁.heap) F9 (by rfl) (by rfl) ?_ (by intro _; rfl) (by passes_own)
  repeat' ((fail_if_success (with_reducible show wpAny _ _ (subscriptTail _ _ _ _) _ _ _)); first | (with_reducible refine execs_one ?_; (try dsimp only)) | ((with_reducible ((with_reducible show wpAny _ _ (eval (PySem.Expr.Name _ _) _) _ _ _); k_dflt (refine nameX_L (by k_asm) (by first | exact rfl | assumption) ?_))); (try dsimp only)) | (walk1; (try dsimp only)) | (dsimp only; walk1) | fail "no step")
  rename_i T3 h4 F4 N4 l4
  k_dflt (refine' kmk_slice_ints (s := { heap := h4, gens := s₁.gens, drawn := s₁.drawn, toks := _, os := s₁.os }) F4 N4 (Heap.IsList.at hL fun o e => F4.keep _ _ e) ?z1 ?z2 hI (kmk_upto (y := 60) hI (by decide)) rfl ?_ ?z3 ?z4 ?z5; (case z1 => kmk_part); (case z2 => kmk_part); (case z3 => with_unfolding_all rfl); (case z4 => kmk_pure); (case z5 => rw [List.size_toArray, hI.length, sizeLine_eq]; omega))
  intro T6 ws h6 F6 N6 l6 hI6 _ hl6
  dsimp only
  k_dflt (refine' kmk_add_lit (s := { heap := h6, gens := s₁.gens, drawn := s₁.drawn, toks := _, os := s₁.os }) F6 N6 (News.isList N6 (.tail _ (.head _))) (News.isList N6 (.head _)) (zs := [Value.int 3 tk] ++ ws) ?z1 ?_ ?z5; (case z1 => simp); (case z5 => simp only [List.toList_toArray, List.length_cons, List.length_nil]; rw [hI6.length, List.length_take, sizeLine_eq]; omega))
  intro T7 h7 F7 N7 l7
  dsimp only
  have hI7 : IntsAre ([Value.int 3 tk] ++ ws) (3 :: ns.take 60) := IntsAre.cons _ _ hI6
  generalize hv7 : [Value.int 3 tk] ++ ws = v7 at N7 hI7
  refine iter_invGL (fun _ => LawJ (s₁.heap.objs.size + 1) W T7 wv v7) rfl (l := T7) (vs := v7) (nn := 0) (news := (s₁.heap.objs.size + 1, oc) :: (T7, PySem.W.listOf v7.toArray 0) :: (W, PySem.W.listOf wv.toArray 0) :: []) (.tail _ (.head _)) hI7 F7 (fun p hp => N7 p ?pm) ?j0 ?jl ?turn ?done
  case pm =>
    simp only [List.mem_cons, List.not_mem_nil, or_false] at hp ⊢
    rcases hp with rfl | rfl | rfl <;> simp
  case j0 =>
    refine ⟨oc, _, rfl, ⟨_, CC⟩, by simp, by simp, ?_, ?_, rfl⟩
    rotate_left
    · intro p hp
      simp only [List.mem_cons, List.not_mem_nil, or_false] at hp
      rcases hp with rfl | rfl <;> exact notTbL
    have l7W := l7 (W, PySem.W.listOf wv.toArray 0) (by simp)
    have l7c := l7 (s₁.heap.objs.size + 1, oc) (by simp)
    intro p hp
    simp only [List.mem_cons, List.not_mem_nil, or_false] at hp
    rcases hp with rfl | rfl
    · exact Nat.ne_of_gt l7c
    · exact Nat.ne_of_gt l1
  case jl =>
    rintro i m nx ⟨oC, tl, rfl, _, _, hT, _⟩
    exact .tail _ hT
  case turn =>
    rintro i g t m₁ news₁ h3 tk3 I oI hgi hIc hIoff ⟨oC, tl, rfl, ⟨cv, hcv⟩, hW, hT, hoff, hntl, hmw⟩ F3 N3
    replace F3 : Fr s₁.heap s₁.heap.objs.size h3 (fun y => if y = "x" then some (.int g t) else m₁ y) := F3
    replace N3 : News s₁.heap s₁.heap.objs.size h3 ((I, oI) :: (s₁.heap.objs.size + 1, oC) :: tl) := N3
    have hIc2 : @Ne Nat I (s₁.heap.objs.size + 1) := Ne.symm (hIoff _ (.head _))
    clear F7 N7 F6 N6 F4 N4 l7 l6 l4 hI7 hI6 N1
    repeat' ((fail_if_success (with_reducible show wpAny _ _ (storeName _ _ _) _ _ _)); first | (with_reducible refine execs_one ?_; (try dsimp only)) | ((with_reducible ((with_reducible show wpAny _ _ (eval (PySem.Expr.Name _ _) _) _ _ _); k_dflt (refine nameX_L (by k_asm) (by first | exact rfl | assumption) ?_))); (try dsimp only)) | (walk1; (try dsimp only)) | (dsimp only; walk1) | fail "no step")
    rename_i u1 tk4 h4 h5 F5 N5
    replace N5 : News s₁.heap s₁.heap.objs.size h5 ((I, oI) :: (s₁.heap.objs.size + 1, oC) :: tl) := fun p hp => N5 p (.tail _ hp)
    have hrest : ((if g < 0 then -g else g).fdiv 9) = ((g.natAbs / 9 : Nat) : Int) := by
      rw [show (if g < 0 then -g else g) = (g.natAbs : Int) by split <;> omega, Int.fdiv_eq_ediv_of_nonneg _ (by decide)]; rfl
    have hkind : ((if g < 0 then -g else g).fmod 9) = ((g.natAbs % 9 : Nat) : Int) := by
      rw [show (if g < 0 then -g else g) = (g.natAbs : Int) by split <;> omega, Int.fmod_eq_emod_of_nonneg _ (by decide)]; rfl
    rw [hrest, hkind]
    have hk : g.natAbs % 9 < 9 := Nat.mod_lt _ (by decide)
    generalize g.natAbs % 9 = k at hk
    generalize g.natAbs / 9 = r
    clear hrest hkind
    refine storeX_C (s := { heap := h5, gens := s₁.gens, drawn := s₁.drawn, toks := _, os := s₁.os }) F5 N5 (by rfl) (UpdF.tail hIc2 (.head hoff)) hcv ?_
    intro h6 o6 F6 N6 d6
    clear F5 N5
    dsimp only at N6 ⊢
    repeat' ((fail_if_success (with_reducible show wpAny _ _ (exec (Stmt.Try _ _ _ _ _) _) _ _ _)); first | (with_reducible refine execs_one ?_; (try dsimp only)) | (exact absurd ‹(13:Int) ^ _ = 0› (pow13 _)) | (walk1; (try dsimp only)) | (dsimp only; walk1) | fail "no step")
    rename_i ys hI8 hL8 G h8 tk8 o8 q h9 l9 h10 F10 N10
    obtain ⟨gl, hIg, hgl, hgn⟩ : ∃ gl, IntsAre ys gl ∧ (∀ g ∈ gl, 0 ≤ g ∧ g ≤ 12) ∧ gl.length = 5 := ⟨_, hI8, glOk r _, by rw [List.length_map]; rfl⟩
    clear hI8 hL8
    have hc6 : ¬ isTb o6 := fun z => by obtain ⟨_, _, z⟩ := z; rw [d6] at z; cases z
    refine law_try (rest := (I, oI) :: (s₁.heap.objs.size + 1, o6) :: tl) (nG := ys.length) hk hgl (datInts hIg) (by omega) (by decide) (by decide) KX T F10 N10 (Nat.ne_of_gt l9.1) ?p1 ?p2 rfl rfl rfl ?_ rfl rfl rfl rfl rfl rfl rfl rfl rfl
    case p1 =>
      intro p hp
      rcases List.mem_cons.mp hp with rfl | hp
      · exact Nat.ne_of_lt l9.2.1
      rcases List.mem_cons.mp hp with rfl | hp
      · exact Nat.ne_of_lt l9.2.2.1
      · exact Nat.ne_of_lt (allLt_mem l9.2.2.2 p hp)
    case p2 =>
      intro p hp
      rcases List.mem_cons.mp hp with rfl | hp
      · exact notTb hIc
      rcases List.mem_cons.mp hp with rfl | hp
      · exact hc6
      · exact hntl p hp
    intro h11 e d t tb ctx es ne mv tk0 vv rv n9 tk9 nl tl9 F11 N11 hmsg hmv hvs hoff9 hG9 hrest9 hnl9 hda9 hrl9 dst
    have hk1 := runT_lt gl k hk
    generalize hrr : runT gl k = rr at *
    obtain ⟨rows, kk⟩ := rr
    dsimp only at hk1 N11 hmv hvs hda9
    have hmvh := hmv.handed
    have hvl : vv.length ≤ 3 := by rw [hvs.length]; exact behind_len kk
    clear F10 N10
    repeat' ((fail_if_success (with_reducible show wpAny _ _ (bind _ _) _ _ _)); first | (with_reducible refine execs_one ?_; (try dsimp only)) | (((with_reducible show wpAny _ _ (eval (PySem.Expr.Name _ _) _) _ _ _); k_dflt (refine nameX_L (by k_asm) (by first | exact rfl | assumption) ?_)); (try dsimp only)) | (((with_reducible show wpAny _ _ (getAttr _ (PySem.Str.ofString "message") _) _ _ _); refine Mine.get_msg2 (by k_asm) (by k_asm) (by k_asm) (by k_mem) (by k_mem) (by assumption) (by assumption) (by assumption) ?_); (try dsimp only)) | (((with_reducible show wpAny _ _ (getAttr _ (PySem.Str.ofString "args") _) _ _ _); refine Mine.get_args2 (by k_asm) (by k_asm) (by k_asm) (by k_mem) (by k_mem) (by assumption) ?_); (try dsimp only)) | ((with_reducible ((with_reducible show wpAny _ _ (call (Value.type _) [Value.ref _]) _ _ _); k_dflt (refine kup_listOfT (by k_asm) (by k_asm) (by k_mem) (by exact List.toList_toArray) ?_ (by simp only [List.toList_toArray, List.length_cons]; rw [sizeLine_eq]; omega)); intro D' c' h' F' N' l1; (try k_lt l1); (try k_sweep))); (try dsimp only)) | ((with_reducible ((with_reducible show wpAny _ _ (binaryOp _ (Value.ref _) (Value.ref _)) _ _ _); k_dflt (refine kmk_add_lit (by k_asm) (by k_asm) (by kmk_list) (by kmk_list) (by rw [List.toList_toArray, List.toList_toArray]) ?_ (by simp only [List.toList_toArray, List.length_cons, List.length_nil]; rw [sizeLine_eq]; omega)); intro D' h' F' N' l1; (try dsimp only [List.cons_append, List.nil_append] at N'); (try k_lt l1); (try k_sweep))); (try dsimp only)) | ((with_reducible ((try dsimp only [List.nil_append, List.cons_append]); (with_reducible show wpAny _ _ (call (Value.builtin "list.append") [Value.ref _, _]) _ _ _); k_dflt (refine append_K (by k_asm) (by k_asm) (by k_upd) ?_ (by rw [List.size_toArray, sizeLine_eq]; omega)); intro h' F' N'; (try k_sweep))); (try dsimp only)) | (walk1; (try dsimp only)) | (dsimp only; walk1) | fail "no step")
    rename_i lA hA l12 D1 hB l13 hC
    refine wpAny_nameGoes_keeps (by rfl) F'.ns (by rfl) fun h13 v13 hn13 hs13 => ?_
    have F13 := F'.set hn13 hs13
    have N13 := N'.set hs13
    clear F' N' hn13 hs13
    dsimp only
    repeat' ((fail_if_success (with_reducible show wpAny _ _ (call (Value.ref _) [Value.ref _, Value.int _ _, Value.ref _]) _ _ _)); first | (with_reducible refine execs_one ?_; (try dsimp only)) | ((with_reducible ((with_reducible show wpAny _ _ (eval (PySem.Expr.Name _ _) _) _ _ _); k_dflt (refine nameX_L (by k_asm) (by first | exact rfl | assumption) ?_))); (try dsimp only)) | (walk1; (try dsimp only)) | (dsimp only; walk1) | fail "no step")
    have hrest9' : ∀ p ∈ (I, oI) :: (s₁.heap.objs.size + 1, o6) :: tl, p ∈ tl9 := hrest9
    refine due_K (n := ys.length) (nw := 0) (gl := gl) hk hgl hIg (by rw [hIg.length]; omega) (by decide) (by decide) hws KX T rfl rfl F13 N13 (.tail _ (.tail _ (.tail _ (.tail _ (.tail _ (.tail _ (.tail _ hG9))))))) (.tail _ (.tail _ (.tail _ (.tail _ (.tail _ (.tail _ (.tail _ (hrest9' _ (.tail _ (.tail _ hW)))))))))) (Ne.symm (off1_mem o8.2.2 _ hW)) ?_
    intro h14 D2 vals n14 nl2 tk14 F14 N14 hda14
    have hok := okRows k hk gl
    rw [hrr] at hda14 hok
    dsimp only at hda14 hok ⊢
    have hda15 : DatAll ((D', PySem.W.listOf (Value.int 13 tk9 :: mv :: Value.int (↑kk) tk0 :: vv).toArray 0) :: nl) (rv ++ [Value.ref D']) ((rows ++ [rowOf 13 kk]).map Dat.list) := by
      rw [List.map_append]
      refine DatAll.append (hda9.mono fun p hp => .tail _ hp) (.one (.list (.head _) ?_))
      exact .cons (.int _ _) (.cons (hmv.mono fun _ z => absurd z List.not_mem_nil) (.cons (.int _ _) (hvs.mono fun _ z => absurd z List.not_mem_nil)))
    refine kqd_same (xs := rv ++ [Value.ref D']) N14 (.tail _ (List.mem_append_right _ (.tail _ (.tail _ (.tail _ (.head _)))))) rfl (push_seq _ _ _) hda15 ?up (.head _) rfl rfl hda14 (fun p hp => .tail _ (List.mem_append_left _ hp)) hok (by show 4 + 3 + 64 < 9900; decide) ?_
    case up =>
      intro p hp
      refine .tail _ (List.mem_append_right _ ?_)
      rcases List.mem_cons.mp hp with rfl | hp
      · exact .head _
      · exact .tail _ (.tail _ (.tail _ (.tail _ (.tail _ (.tail _ (.tail _ (hnl9 p hp)))))))
    repeat' (first | (with_reducible refine execs_one ?_; (try dsimp only)) | (walk1; (try dsimp only)) | (dsimp only; walk1) | fail "no step")
    have hr14 : ∀ p ∈ (I, oI) :: (s₁.heap.objs.size + 1, o6) :: tl, h14.get? p.1 = some p.2 ∧ p.1 ≠ s₁.heap.objs.size ∧ s₁.heap.get? p.1 = none := fun p hp => N14 p (.tail _ (List.mem_append_right _ (.tail _ (.tail _ (.tail _ (.tail _ (.tail _ (.tail _ (.tail _ (hrest9' p hp))))))))))
    exact law_end (o := o6) F14 (hr14 _ (.head _)) (hr14 _ (.tail _ (.head _))) (hr14 _ (.tail _ (.tail _ hT))) (hr14 _ (.tail _ (.tail _ hW))) d6 hIc2 (hIoff _ (.tail _ hT)) (hIoff _ (.tail _ hW)) (hoff _ hT) (hoff _ hW) (by first | exact hmw | rfl)
  case done =>
    rintro m₁ news₁ h4 tk4 ⟨oC, tl, rfl, ⟨cv, hcv⟩, hW, hT, hoff, hntl, hmw⟩ F3 N3
    replace F3 : Fr s₁.heap s₁.heap.objs.size h4 m₁ := F3
    replace N3 : News s₁.heap s₁.heap.objs.size h4 ((s₁.heap.objs.size + 1, oC) :: tl) := N3
    clear F7 N7 F6 N6 F4 N4 l7 l6 l4 hI7 hI6 N1
    dsimp only
    repeat' (first | (k_unfold; (try dsimp only)) | (k_end; wrow_close) | walk1 | (dsimp only; walk1) | (leave1; walk_say "STEP leave1"; try dsimp only) | fail "no step")
end Law

