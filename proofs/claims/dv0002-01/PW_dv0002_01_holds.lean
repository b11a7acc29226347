import PyProof.Rows.All
import Wide.All
import OpenK.AllK
import Wide.FinOn
import PySem.Challenge.RW_dv0002_01
set_option Elab.async false
section -- ExcA
set_option maxRecDepth 100000
set_option maxHeartbeats 4000000
set_option linter.unusedSimpArgs false
set_option linter.unusedVariables false
namespace Mine
open PySem PySem.W PySem.Calls PyProof.Rows PySem.Builtin PySem.Builtin.ObjectAttr PySem.Builtin.Getset_descriptor

/-- an exception class of the text's own, over Exception -/
def exIn (K : Frag) (C : Addr) : Bool := match K.lookup C with
  | some ⟨.type "type", _, .cls cd, sl⟩ => !cd.abstract && !cd.hasDel && cd.hasDict && (sl.toList[4]?).join == some (.builtin "Exception.__new__") && !cd.mro.isEmpty && cd.mro.contains (.ref C) && cd.mro.contains (.type "Exception") &&
      cd.mro.contains (.type "BaseException") && cd.mro.contains (.type "object") && !cd.mro.contains (.type "AttributeError") && !cd.mro.contains (.type "NameError") &&
      specialIn K (.ref C) "__call__" == some (some (.builtin "type.__call__")) && instIn K (.ref C) (.type "type") == some true
  | _ => false

structure ECls (M : Model) (h : Heap) (C : Addr) : Prop where
  obj : ∃ od cd sl, h.get? C = some ⟨.type "type", od, .cls cd, sl⟩ ∧ cd.abstract = false ∧ cd.hasDel = false ∧ cd.mro.isEmpty = false ∧ cd.hasDict = true
  made : Looks M h (Bind.madeBy (.ref C)) (some "Exception.__new__")
  base : Looks M h (Bind.staticBase (.ref C)) (.ref C)
  self : Looks M h (isSubtype (.ref C) (.ref C)) true
  exc : Looks M h (isSubtype (.ref C) (.type "Exception")) true
  bexc : Looks M h (isSubtype (.ref C) (.type "BaseException")) true
  top : Looks M h (isSubtype (.ref C) (.type "object")) true
  attr : Looks M h (isSubtype (.ref C) (.type "AttributeError")) false
  name : Looks M h (isSubtype (.ref C) (.type "NameError")) false
  call : Looks M h (specialOf (.ref C) "__call__") (some (.builtin "type.__call__"))
  typ : Looks M h (isInstance (.ref C) (.type "type")) true

theorem ecls_of {K : Frag} {M : Model} {h : Heap} (X : K.In h) {C : Addr} (e : exIn K C = true) : ECls M h C := by
  unfold exIn at e
  split at e
  · rename_i od cd sl ho
    simp only [Bool.and_eq_true, Bool.not_eq_true', beq_iff_eq] at e
    obtain ⟨⟨⟨⟨⟨⟨⟨⟨⟨⟨⟨⟨e1, e2⟩, e2'⟩, e3⟩, e4⟩, e5⟩, e6⟩, e7⟩, e8⟩, e9⟩, e10⟩, e11⟩, e12⟩ := e
    have hc : clsIn K C = some cd := by unfold clsIn; rw [ho]
    have hm : Looks M h (mroOf (.ref C)) cd.mro := (looks_clsIn X hc).andThen .now
    obtain ⟨c, l, hl⟩ : ∃ c l, cd.mro = c :: l := by cases q : cd.mro with | nil => rw [q] at e4; cases e4 | cons c l => exact ⟨c, l, rfl⟩
    have made : Looks M h (Bind.madeBy (.ref C)) (some "Exception.__new__") := by
      intro A Q E s k q
      unfold Bind.madeBy
      refine wpAny_bind (hm A _ E s k ?_)
      rw [hl, List.forIn_cons]
      refine wpAny_bind (wpAny_bind (wpAny_bind (wpAny_bind (wpAny_loadPart (k _ _ (X _ _ ho)) (wpAny_pure ?_)))))
      dsimp only
      rw [← Array.getElem?_toList, e3]
      exact wpAny_pure (wpAny_pure (wpAny_pure q))
    have S : ∀ b r, cd.mro.contains b = r → Looks M h (isSubtype (.ref C) b) r := fun b r hb => looks_mroIn X (by unfold mroIn; rw [hc, Option.bind_some, if_neg (by rw [e4]; decide), hb])
    refine ⟨⟨od, cd, sl, X _ _ ho, e1, e2, e4, e2'⟩, made, ?_, S _ _ e5, S _ _ e6, S _ _ e7, S _ _ e8, S _ _ e9, S _ _ e10, looks_specialIn X e11, looks_instIn X e12⟩
    intro A Q E s k q
    unfold Bind.staticBase
    refine wpAny_bind (hm A _ E s k ?_)
    rw [hl, List.forIn_cons]
    exact wpAny_bind (wpAny_bind (wpAny_bind (made A _ E s k (wpAny_pure (wpAny_pure (wpAny_pure q))))))
  · cases e

/-- an exception object: its dict, its args, its traceback, its context -/
abbrev excObj (C : Addr) (d : Option Addr) (a tb ctx : Value) : Obj := { cls := .ref C, dict := d, data := .fields #[a, tb, ctx, .none, .bool false, .none] }
abbrev tupObj (vs : List Value) : Obj := { cls := .type "tuple", data := .seq vs.toArray }

theorem args_enew (C : Value) (rest : List Value) (kw : List (Str × Value)) : Bind.checkArgs "Exception.__new__" ⟨.any, "Exception", "Exception", .cls, [⟨"args", .varPos, false⟩, ⟨"kwargs", .varKw, false⟩]⟩ ⟨C :: rest, kw⟩ = pure () := by
  kernel_rfl

section
variable {prog : Program} {w : World} {A : Around} {K : Frag} {C : Addr} {R : Result → Shared → Prop} {h : Heap} {g : Array GenState} {d : Drawn} {t : Nat} {os : OsState}
theorem exc_new {rest : List Value} {kw : List (Str × Value)} (Y : ECls (model prog w) h C) (hz : rest.length ≤ sizeLine)
    (hq : R (.ok (.ret (.ref (h.objs.size + 1)))) ⟨(h.push (tupObj rest)).push (excObj C none (.ref h.objs.size) .none .none), g, d, t, os⟩) :
    codeAny (model prog w) A (.call (.builtin "Exception.__new__") ⟨.ref C :: rest, kw⟩) R ⟨h, g, d, t, os⟩ := by
  obtain ⟨⟨od, cd, sl, hC, e1, e2, e4, e5⟩, made, base, self, exc, bexc, top, attr, name, call, typ⟩ := Y
  have F := PySem.F.excBase_Exception
  refine codeAny_call_builtin_code (Code.quiet_builtin _ F.quiet) ?_
  simp only [checkBuiltinCall, F.newKind, F.newSplit, F.newRow]
  have here : Looks (model prog w) h (Bind.madeHere "Exception.__new__" (.ref C)) () := base.andThen (made.andThen (Looks.of_pure (by simp only [Option.map_some, bne_self_eq_false, Bool.false_eq_true, if_false])))
  have here' : Looks (model prog w) h (Bind.madeHere "BaseException.__new__" (.ref C)) () := base.andThen (made.andThen (Looks.of_pure (by simp only [Option.map_some, F.canon, bne_self_eq_false, Bool.false_eq_true, if_false])))
  have args := args_enew (.ref C) rest kw
  rw [args]
  repeat (first | simp only [bne_self_eq_false, Bool.false_eq_true, if_false] | lk)
  refine codeAny_builtinAt F.entry ?_
  unfold Builtin.«BaseException.__new__»
  refine PySem.wpAt_bind ?_
  show PySem.wpAt _ _ _ (stack >>= _) _ _ _
  refine PySem.wpAt_bind (PySem.wpAt_stack fun p below => PySem.wpAt_of_wpAny ?_)
  dsimp only
  rw [F.ends, if_pos rfl]
  refine wpAny_pure ?_
  refine PySem.wpAt_of_wpAny ?_
  rw [F.owner]
  repeat (first | simp only [Bool.false_eq_true, if_false, Bool.not_true] | lk)
  rw [if_neg (by rw [List.size_toArray]; omega)]
  have hC2 : ((h.push (tupObj rest)).push (excObj C none (.ref h.objs.size) .none .none)).get? C = some ⟨.type "type", od, .cls cd, sl⟩ := Heap.get?_push_of_some _ (Heap.get?_push_of_some _ hC)
  repeat (first | simp only [e2, Bool.false_eq_true, if_false, Bool.not_true] | lk)
  rw [Heap.size_push]
  exact hq

theorem exc_make {rest : List Value} {kw : List (Str × Value)} {fI : Addr} (Y : ECls (model prog w) h C) (hi : Looks (model prog w) h (typeLookup (.ref C) "__init__") (some (.ref fI)))
    (hb : ∀ self, Looks (model prog w) h (bindSpecial (.ref fI) self) (.ref fI, [self])) (hz : rest.length ≤ sizeLine)
    (hq : codeAny (model prog w) (A.under (.builtin "type.__call__" ⟨.ref C :: rest, kw⟩)) (.call (.ref fI) ⟨.ref (h.objs.size + 1) :: rest, kw⟩) (InitBack (h.objs.size + 1) R) ⟨(h.push (tupObj rest)).push (excObj C none (.ref h.objs.size) .none .none), g, d, t, os⟩) :
    codeAny (model prog w) A (.call (.ref C) ⟨rest, kw⟩) R ⟨h, g, d, t, os⟩ := by
  have Y' := Y
  obtain ⟨⟨od, cd, sl, hC, e1, e2, e4, e5⟩, made, base, self, exc, bexc, top, attr, name, call, typ⟩ := Y
  refine codeAny_of_tree ?_
  show wpAny _ _ (callAny (.ref C) _) _ _ _
  refine nd_load hC ?_
  show wpAny _ _ (callAny.viaDunder (.ref C) _) _ _ _
  unfold callAny.viaDunder
  refine wpAny_bind (call.at ?_)
  dsimp only
  rw [tc_bind]
  refine wpAny_bind (wpAny_pure (wpAny_bind (wpAny_pure ?_)))
  refine wpAny_pure (a := PySem.Fin.again (.call (.builtin "type.__call__") ⟨.ref C :: rest, kw⟩)) (And.intro rfl ?_)
  refine codeAny_call_builtin_at (Code.quiet_builtin _ (by decide +kernel)) entry_typeCall (check_slot tc_kind tc_split typ (tc_args _ _ _) ?_)
  unfold Builtin.«type.__call__»
  have hm : Looks (model prog w) h (mroOf (.ref C)) cd.mro := ((Looks.ld (part := none) hC).andThen .now).andThen .now
  repeat (first | simp only [e4, Bool.false_eq_true, if_false] | with_reducible refine wpAny_call ?_ | lk)
  refine exc_new Y' hz ?_
  have k : ∀ b o, h.get? b = some o → ((h.push (tupObj rest)).push (excObj C none (.ref h.objs.size) .none .none)).get? b = some o := fun b o e => Heap.get?_push_of_some _ (Heap.get?_push_of_some _ e)
  have hx : ((h.push (tupObj rest)).push (excObj C none (.ref h.objs.size) .none .none)).get? (h.objs.size + 1) = some (excObj C none (.ref h.objs.size) .none .none) := by heap_get
  have t1 : Looks (model prog w) ((h.push (tupObj rest)).push (excObj C none (.ref h.objs.size) .none .none)) (typeOf (.ref (h.objs.size + 1))) (.ref C) := (Looks.ld hx).andThen .now
  have s1 := self.keeps k
  have i1 := hi.keeps k
  have b1 := (hb (.ref (h.objs.size + 1))).keeps k
  unfold isInstance callSpecial? specialOf
  repeat (first | with_reducible refine wpAny_call ?_ | lk)
  refine codeAny_mono hq fun r s' z => ?_
  rcases r with e | (v | _ | _ | _) <;> first | exact z | exact z.elim | skip
  obtain ⟨rfl, z⟩ := z
  exact wpAny_pure (wpAny_pure z)
end

section
variable {prog : Program} {w : World} {A : Around} {E : Value → Shared → Prop} {s : Shared} {K : Frag} {C L : Addr} {h₀ : Heap} {m : Str → Option Value} {news : List (Addr × Obj)} {Q : Value → Shared → Prop}
/-- the class is called: its args, the exception, then its __init__ -/
theorem call_exc {pos : List Value} {kw : List (Str × Value)} {fI : Addr} (F : Fr h₀ L s.heap m) (X₀ : K.In h₀) (N : News h₀ L s.heap news) (hm : exIn K C = true) (hi : findIn K (.ref C) "__init__" = some (some (.ref fI))) (hf : isFn K (.ref fI) = true)
    (hz : pos.length ≤ sizeLine)
    (h : ∀ x tt h', Fr h₀ L h' m → News h₀ L h' ((x, excObj C none (.ref tt) .none .none) :: (tt, tupObj pos) :: news) → (∀ p ∈ news, p.1 < tt) → tt < x →
      codeAny (model prog w) (A.under (.builtin "type.__call__" ⟨.ref C :: pos, kw⟩)) (.call (.ref fI) ⟨.ref x :: pos, kw⟩) (InitBack x fun r s' => match r with | .ok (.ret v) => Q v s' | .ok _ => False | .error e => E e s') { s with heap := h' }) :
    wpAny (model prog w) A (call (.ref C) pos kw) Q E s := by
  have X := X₀.keeps F.keep
  obtain ⟨hh, g, d, t, os⟩ := s
  refine wpAny_call (exc_make (ecls_of X hm) (looks_findIn X hi) (fun self => bind_fn X self (beq_iff_eq.mp hf)) hz (h _ hh.objs.size _ ((F.push _).push _) ?_ (fun p hp => Heap.lt_size (N p hp).1) (Nat.lt_succ_self _)))
  have := (N.push F (tupObj pos)).push (F.push _) (excObj C none (.ref hh.objs.size) .none .none)
  rwa [Heap.size_push] at this
end
end Mine

end
section -- ExcB
set_option maxRecDepth 100000
set_option maxHeartbeats 4000000
set_option linter.unusedSimpArgs false
set_option linter.unusedVariables false
namespace Mine
open PySem PySem.W PySem.Calls PyProof.Rows PySem.Builtin PySem.Builtin.ObjectAttr PySem.Builtin.Getset_descriptor

def excTail : List Value → Bool
  | [.type a, .type b, .type c] => a == "Exception" && b == "BaseException" && c == "object"
  | .ref _ :: r => excTail r
  | _ => false
theorem refuse_exc (self : Value) : ∀ {l : List Value}, excTail l = true → refuseLoop self "__setattr__" l = pure ()
  | [.type a, .type b, .type c], e => by
    simp only [excTail, Bool.and_eq_true, beq_iff_eq] at e
    obtain ⟨⟨rfl, rfl⟩, rfl⟩ := e
    exact PySem.F.store_Exception.passes self
  | .ref c :: r, e => by rw [refuseLoop_ref]; exact refuse_exc self (by simpa only [excTail] using e)
theorem exc_has : ∀ {l : List Value}, excTail l = true → l.contains (.type "object") = true ∧ l.contains (.type "BaseException") = true
  | [.type a, .type b, .type c], e => by
    simp only [excTail, Bool.and_eq_true, beq_iff_eq] at e
    obtain ⟨⟨rfl, rfl⟩, rfl⟩ := e
    decide
  | .ref c :: r, e => by
    have := exc_has (l := r) (by simpa only [excTail] using e)
    rw [List.contains_cons, List.contains_cons, this.1, this.2, Bool.or_true, Bool.or_true]; exact ⟨rfl, rfl⟩
def excOver (K : Frag) (C : Addr) : Bool := (clsIn K C).any fun cd => excTail cd.mro

section
variable {prog : Program} {w : World} {A : Around} {E : Value → Shared → Prop} {K : Frag} {C x : Addr} {s : Shared} {h₀ : Heap} {L : Addr} {m : Str → Option Value} {news news' : List (Addr × Obj)} {R : Result → Shared → Prop}

theorem eosa_open {ox : Obj} {od : Option Obj} {name : Str} {tk : Tok} {v : Value} {r : Option Value} (X : K.In s.heap) (I : InstAt s.heap x ox C od) (hp : excOver K C = true) (ht : takerIn K C name = some r)
    (h : ∀ b, wpAny (model prog w) A.in1 (match r with | some a => setByDescriptor a (.ref x) v | none => storeInOwnDict (.ref x) (.ref C) (.str name tk) name v b)
      (fun fin s' => match fin with | .done f => R (.ok f) s' | .again c' => c'.quiet = true ∧ codeAny (model prog w) A c' R s') (fun e s' => R (.error e) s') s) :
    codeAny (model prog w) A (.call (.builtin "object.__setattr__") ⟨[.ref x, .str name tk, v], []⟩) R s := by
  have SF := PySem.F.store_object
  obtain ⟨cd, hc, ho⟩ := any_some hp
  have ne : cd.mro.isEmpty = false := by cases q : cd.mro with | nil => rw [q] at ho; cases ho | cons _ _ => rfl
  have sub : Looks (model prog w) s.heap (isInstance (.ref x) (.type "object")) true := I.type.andThen (looks_mroIn X (by unfold mroIn; rw [hc, Option.bind_some, if_neg (by rw [ne]; decide), (exc_has ho).1]))
  refine codeAny_call_builtin SF.slot.plain SF.entry (@check_slot (model prog w) _ _ s "object.__setattr__" "object" "__setattr__" (.ref x) [.str name tk, v] [] _ SF.kind SF.split sub (SF.args (.ref x) (.str name tk) v) ?_)
  obtain ⟨attr, ha, hr⟩ := Option.bind_eq_some_iff.mp ht
  have hm : Looks (model prog w) s.heap (mroOf (.ref C)) cd.mro := (looks_clsIn X hc).andThen .now
  have L3 : Looks (model prog w) s.heap (storeTaker? attr) r := by
    cases attr with
    | none => cases hr; exact .now
    | some a =>
      obtain ⟨b, hb, rfl⟩ := Option.map_eq_some_iff.mp hr
      refine (looks_takesIn X hb).andThen ?_
      cases b <;> exact .now
  rw [osa_eq, refuse_eq]
  refine wpAny_bind (wpAny_bind (I.type.here (wpAny_bind (hm.here ?_))))
  rw [refuse_exc _ ho]
  refine wpAny_pure (wpAny_bind (I.type.here (wpAny_bind ((looks_findIn X ha).here (wpAny_bind (L3.here ?_))))))
  exact h _

/-- a name is laid into a dict of the ledger -/
theorem nsSet_led {Q : Unit → Shared → Prop} {name : Str} {v : Value} {dx : Addr} {es : List DictEntry} {n : Nat} {pre post : List (Addr × Obj)} (F : Fr h₀ L s.heap m) (N : News h₀ L s.heap (pre ++ (dx, dictOf es n) :: post))
    (hl : (getL name es).isSome = true) (h1 : ∀ p ∈ pre, p.1 ≠ dx) (h2 : ∀ p ∈ post, p.1 ≠ dx) (hz : (putL name (PyData.keyHash w.params name) (.str name s.toks) v es).length ≤ 1000)
    (h : ∀ h', Fr h₀ L h' m → News h₀ L h' (pre ++ (dx, dictOf (putL name (PyData.keyHash w.params name) (.str name s.toks) v es) (putN name es n)) :: post) → Q () { s with heap := h', toks := s.toks + 1 }) :
    wpAny (model prog w) A (nsSet dx name v) Q E s := by
  obtain ⟨U1, U2⟩ := news_upd (f := Obj.putName name (PyData.keyHash w.params name) (.str name s.toks) v) F N h1 h2 (putName_dict _ _ _ _ _ _) rfl
  have D := (N (dx, dictOf es n) (by simp)).1
  unfold nsSet
  refine wpAny_bind (wpAny_bind (wpAny_askSetting (wpAny_pure (wpAny_bind (wpAny_mkText (wpAny_bind (wpAny_loadPart D ?_)))))))
  have c : (!es.toArray.any (·.key.isStr name) && es.toArray.any (·.refKey)) = false := by
    rw [← Array.any_toList, ← Array.any_toList]
    unfold getL at hl
    split at hl
    · rename_i en he
      rw [List.any_eq_true.mpr ⟨en, List.mem_of_find?_eq_some he, List.find?_some he⟩]; rfl
    · split at hl
      · cases hl
      · rename_i z; rw [Bool.not_eq_true] at z
        have z' : es.toArray.toList.any (·.refKey) = false := z
        rw [z', Bool.and_false]
  dsimp only
  rw [aRefKeyMayBeTheName_at, c]
  refine wpAny_updatePart D ?_
  exact h _ U1 U2

theorem eosa_dict {ox : Obj} {dx : Addr} {name : Str} {tk : Tok} {v : Value} {pre post : List (Addr × Obj)} {es : List DictEntry} {n : Nat} (F : Fr h₀ L s.heap m) (N : News h₀ L s.heap (pre ++ (dx, dictOf es n) :: post)) (X : K.In s.heap)
    (I : InstAt s.heap x ox C (some (dictOf es n))) (hd : ox.dict = some dx) (hp : excOver K C = true) (ht : takerIn K C name = some none) (hh : (clsIn K C).any (·.hasDict) = true)
    (hl : (getL name es).isSome = true) (h1 : ∀ p ∈ pre, p.1 ≠ dx) (h2 : ∀ p ∈ post, p.1 ≠ dx) (hz : (putL name (PyData.keyHash w.params name) (.str name s.toks) v es).length ≤ 1000)
    (h : ∀ h', Fr h₀ L h' m → News h₀ L h' (pre ++ (dx, dictOf (putL name (PyData.keyHash w.params name) (.str name s.toks) v es) (putN name es n)) :: post) → R (.ok (.ret .none)) { s with heap := h', toks := s.toks + 1 }) :
    codeAny (model prog w) A (.call (.builtin "object.__setattr__") ⟨[.ref x, .str name tk, v], []⟩) R s := by
  refine eosa_open X I hp ht fun b => ?_
  obtain ⟨cd, hc, hd'⟩ := any_some hh
  obtain ⟨hx, hcl, hn, -⟩ := I
  obtain ⟨oc, odi, oda, osl⟩ := ox
  dsimp only at hcl hd
  subst hcl hd
  refine wpAny_bind (wpAny_pure (wpAny_bind (wpAny_bind (wpAny_loadPart hx (wpAny_bind ((looks_clsIn X hc).here ?_))))))
  rw [hd']
  refine wpAny_pure (a := some dx) (wpAny_bind (wpAny_pure (wpAny_bind ?_)))
  refine nsSet_led F N hl h1 h2 hz fun h' F' N' => ?_
  refine wpAny_bind (wpAny_lookBehind (N' (dx, dictOf (putL name (PyData.keyHash w.params name) (.str name s.toks) v es) (putN name es n)) (by simp)).1 (pastItsLine_dict (by rw [List.size_toArray, sizeLine_eq]; omega)) ?_)
  exact wpAny_pure (h _ F' N')

/-- the first name of an exception: its dict is made -/
theorem eosa_new {a tb ctx : Value} {name : Str} {tk : Tok} {v : Value} {pre post : List (Addr × Obj)} (F : Fr h₀ L s.heap m) (N : News h₀ L s.heap (pre ++ (x, excObj C none a tb ctx) :: post)) (X : K.In s.heap)
    (hp : excOver K C = true) (ht : takerIn K C name = some none) (hh : (clsIn K C).any (·.hasDict) = true) (h1 : ∀ p ∈ pre, p.1 ≠ x) (h2 : ∀ p ∈ post, p.1 ≠ x)
    (h : ∀ h' dd, Fr h₀ L h' m → News h₀ L h' ((dd, dictOf [⟨PyData.keyHash w.params name, .str name s.toks, v⟩] 1) :: (pre ++ (x, excObj C (some dd) a tb ctx) :: post)) → (∀ p ∈ pre ++ (x, excObj C none a tb ctx) :: post, p.1 < dd) →
      R (.ok (.ret .none)) { s with heap := h', toks := s.toks + 1 }) :
    codeAny (model prog w) A (.call (.builtin "object.__setattr__") ⟨[.ref x, .str name tk, v], []⟩) R s := by
  have hx := (N (x, excObj C none a tb ctx) (by simp)).1
  refine eosa_open (ox := excObj C none a tb ctx) (od := none) X ⟨hx, rfl, rfl, trivial⟩ hp ht fun b => ?_
  obtain ⟨cd, hc, hd'⟩ := any_some hh
  refine wpAny_bind (wpAny_pure (wpAny_bind ?_))
  show wpAny _ _ (instanceDict x true) _ _ _
  unfold instanceDict
  refine wpAny_bind (wpAny_loadPart hx (wpAny_bind ((looks_clsIn X hc).here ?_)))
  rw [hd']
  repeat lk
  have F1 := F.push (dictOf [] 0)
  have N1 := N.push F (dictOf [] 0)
  have lt : ∀ p ∈ pre ++ (x, excObj C none a tb ctx) :: post, p.1 < s.heap.objs.size := fun p hp => Heap.lt_size (N p hp).1
  obtain ⟨F2, N2⟩ := news_upd (f := fun o => { o with dict := some s.heap.objs.size }) (pre := (s.heap.objs.size, dictOf [] 0) :: pre) (o' := excObj C (some s.heap.objs.size) a tb ctx) F1 N1
    (fun p hp => by rcases List.mem_cons.mp hp with rfl | hp; exact Nat.ne_of_gt (lt (x, excObj C none a tb ctx) (by simp)); exact h1 p hp) h2 rfl rfl
  have hx1 := (N1 (x, excObj C none a tb ctx) (by simp)).1
  refine wpAny_updatePart (part := none) hx1 ?_
  refine wpAny_pure (a := some s.heap.objs.size) (wpAny_bind (wpAny_pure (wpAny_bind ?_)))
  refine nsSet_led (s := { s with heap := _ }) (pre := []) F2 N2 rfl (fun _ hp => nomatch hp) (fun p hp => ?_) (Nat.le_of_ble_eq_true rfl) fun h' F' N' => ?_
  · rcases List.mem_append.mp hp with hp | hp
    · exact Nat.ne_of_lt (lt p (List.mem_append_left _ hp))
    · rcases List.mem_cons.mp hp with rfl | hp
      · exact Nat.ne_of_lt (lt (x, excObj C none a tb ctx) (by simp))
      · exact Nat.ne_of_lt (lt p (by simp [hp]))
  · refine wpAny_bind (wpAny_lookBehind (N' (s.heap.objs.size, dictOf [⟨PyData.keyHash w.params name, .str name s.toks, v⟩] 1) (.head _)).1 (pastItsLine_dict (by rw [List.size_toArray, sizeLine_eq]; exact Nat.le_of_ble_eq_true rfl)) ?_)
    exact wpAny_pure (h _ _ F' N' lt)
end
end Mine

end
section -- ExcC
set_option maxRecDepth 100000
set_option maxHeartbeats 4000000
set_option linter.unusedSimpArgs false
set_option linter.unusedVariables false
namespace Mine
open PySem PySem.W PySem.Calls PyProof.Rows PySem.Builtin PySem.Builtin.ObjectAttr PySem.Builtin.Getset_descriptor PySem.Builtin.BaseException

theorem entry_gs_set : entryFor table "getset_descriptor.__set__" = some Builtin.«getset_descriptor.__set__» := entryFor_of_tree (by kernel_rfl)
theorem entry_args_set : entryFor table "BaseException.args#set" = some Builtin.«BaseException.args#set» := entryFor_of_tree (by kernel_rfl)
theorem args_gs_set (a b c : Value) : argsOk "getset_descriptor.__set__" ⟨[a, b, c], []⟩ := by unfold argsOk; kernel_rfl
theorem args_owner : descrOwnerAndName "BaseException.args" = ("BaseException", "args") := by decide +kernel
theorem entry_einit : entryFor table "Exception.__init__" = some Builtin.«BaseException.__init__» := PySem.F.excBase_Exception.initEntry

section
variable {prog : Program} {w : World} {A : Around} {E : Value → Shared → Prop} {K : Frag} {C x : Addr} {s : Shared} {h₀ : Heap} {L : Addr} {m : Str → Option Value} {news news' : List (Addr × Obj)} {R : Result → Shared → Prop}

theorem exc_put {i : Nat} {o : Obj} {vs : Array Value} {old v : Value} {Q : Unit → Shared → Prop} (hx : s.heap.get? x = some o) (hd : o.data = .fields vs) (hi : vs[i]? = some old)
    (h : Q () { s with heap := s.heap.update x (Obj.mapFields (·.setIfInBounds i v)) }) : wpAny (model prog w) A (bexcPut (.ref x) i v) Q E s := by
  unfold bexcPut
  refine wpAny_bind (wpAny_field hx hd hi (wpAny_bind (wpAny_setField hx hd (Array.getElem?_eq_some_iff.mp hi).1 ?_)))
  cases old <;> first | exact wpAny_pure h | exact wpAny_letGo h

/-- self.args = (..) -/
theorem args_set {od : Option Addr} {a tb ctx : Value} {tt : Addr} {items : Array Value} {pre post : List (Addr × Obj)} (F : Fr h₀ L s.heap m) (N : News h₀ L s.heap (pre ++ (x, excObj C od a tb ctx) :: post)) (X : K.In s.heap)
    (hp : exIn K C = true) (h1 : ∀ p ∈ pre, p.1 ≠ x) (h2 : ∀ p ∈ post, p.1 ≠ x) (ht : IsTup s.heap tt items)
    (h : ∀ h', Fr h₀ L h' m → News h₀ L h' (pre ++ (x, excObj C od (.ref tt) tb ctx) :: post) → R (.ok (.ret .none)) { s with heap := h' }) :
    codeAny (model prog w) A (.call (.builtin "getset_descriptor.__set__") ⟨[.builtin "BaseException.args", .ref x, .ref tt], []⟩) R s := by
  have hx := (N (x, excObj C od a tb ctx) (by simp)).1
  have Y := ecls_of (M := model prog w) X hp
  have hT5 : s.TypeIs (.builtin "BaseException.args") "getset_descriptor" := PySem.F.typeOf_bexc_args
  refine codeAny_call_builtin PySem.F.slot_gs_set.plain entry_gs_set (PySem.F.slot_gs_set.check _ _ _ _ _ _ _ _ hT5 (args_gs_set _ _ _) ?_)
  obtain ⟨F2, N2⟩ := news_upd (f := Obj.mapFields (·.setIfInBounds 0 (.ref tt))) (o' := excObj C od (.ref tt) tb ctx) F N h1 h2 rfl rfl
  obtain ⟨hh, g, d, t, os⟩ := s
  have t1 : Looks (model prog w) hh (typeOf (.ref x)) (.ref C) := (Looks.ld hx).andThen .now
  have b1 := Y.bexc
  unfold Builtin.«getset_descriptor.__set__» descrSet descrStoreThrough descrCheckInstance descrNameAndClass isInstance
  simp only [args_owner]
  repeat (first | simp only [Bool.not_true, Bool.false_eq_true, if_false] | lk)
  refine ⟨Code.quiet_builtin _ (by decide +kernel), ?_⟩
  rw [show ("BaseException.args" ++ "#set" : String) = "BaseException.args#set" from rfl]
  refine codeAny_builtin entry_args_set ?_
  unfold Builtin.«BaseException.args#set»
  refine wpAny_bind (call_tuple_tup ht (wpAny_bind (exc_put hx rfl (old := a) rfl ?_)))
  exact wpAny_pure (h _ F2 N2)

theorem check_einit {o : Obj} {v : Value} {Q : Unit → Shared → Prop} (X : K.In s.heap) (hp : exIn K C = true) (hx : s.heap.get? x = some o) (hc : o.cls = .ref C) (hq : Q () s) :
    wpAny (model prog w) A (checkBuiltinCall "Exception.__init__" ⟨[.ref x, v], []⟩) Q E s := by
  have Y := ecls_of (M := model prog w) X hp
  have FX := PySem.F.excBase_Exception
  have hs := FX.noStar
  have t1 : Looks (model prog w) s.heap (typeOf (.ref x)) (.ref C) := hc ▸ (Looks.ld hx).andThen .now
  have t2 := t1.andThen (f := fun t => isSubtype t (.type "Exception")) Y.exc
  simp only [checkBuiltinCall, FX.initKind, FX.initSplit, FX.initRow]
  refine wpAny_bind (t2.here ?_)
  simp only [Bool.not_true, Bool.false_eq_true, if_false]
  obtain ⟨hh, g, d, t, os⟩ := s
  obtain ⟨oc, odi, oda, osl⟩ := o
  obtain ⟨⟨od, cd, sl, hC, e1, e2, e4, e5⟩, -⟩ := Y
  dsimp only at hc
  subst hc
  unfold Bind.checkArgs
  repeat lk
  exact hq

/-- Exception.__init__(self, v) -/
theorem exc_init {od : Option Addr} {a tb ctx v : Value} {pre post : List (Addr × Obj)} (F : Fr h₀ L s.heap m) (N : News h₀ L s.heap (pre ++ (x, excObj C od a tb ctx) :: post)) (X : K.In s.heap)
    (hp : exIn K C = true) (h1 : ∀ p ∈ pre, p.1 ≠ x) (h2 : ∀ p ∈ post, p.1 ≠ x)
    (h : ∀ h' tt, Fr h₀ L h' m → News h₀ L h' ((tt, tupObj [v]) :: (pre ++ (x, excObj C od (.ref tt) tb ctx) :: post)) → (∀ p ∈ pre ++ (x, excObj C od a tb ctx) :: post, p.1 < tt) → R (.ok (.ret .none)) { s with heap := h' }) :
    codeAny (model prog w) A (.call (.builtin "Exception.__init__") ⟨[.ref x, v], []⟩) R s := by
  have hx := (N (x, excObj C od a tb ctx) (by simp)).1
  have Y := ecls_of (M := model prog w) X hp
  have FX := PySem.F.excBase_Exception
  have t1 : Looks (model prog w) s.heap (typeOf (.ref x)) (.ref C) := (Looks.ld hx).andThen .now
  refine codeAny_call_builtin FX.init.plain FX.initEntry (check_einit X hp hx rfl ?_)
  have lt : ∀ p ∈ pre ++ (x, excObj C od a tb ctx) :: post, p.1 < s.heap.objs.size := fun p hp => Heap.lt_size (N p hp).1
  have F1 := F.push (tupObj [v])
  have N1 := N.push F (tupObj [v])
  obtain ⟨F2, N2⟩ := news_upd (f := Obj.mapFields (·.setIfInBounds 0 (.ref s.heap.objs.size))) (pre := (s.heap.objs.size, tupObj [v]) :: pre) (o' := excObj C od (.ref s.heap.objs.size) tb ctx) F1 N1
    (fun p hp => by rcases List.mem_cons.mp hp with rfl | hp; exact Nat.ne_of_gt (lt (x, excObj C od a tb ctx) (by simp)); exact h1 p hp) h2 rfl rfl
  have hx1 := (N1 (x, excObj C od a tb ctx) (by simp)).1
  unfold Builtin.«BaseException.__init__»
  show wpAny _ _ (newTuple [v] >>= fun t => bexcPut (.ref x) 0 t >>= fun _ => ret .none) _ _ _
  refine wpAny_bind (wpAny_newObj_type ?_ (by show 1 ≤ sizeLine; rw [sizeLine_eq]; decide))
  refine wpAny_bind (exc_put (s := { s with heap := s.heap.push (tupObj [v]) }) hx1 rfl (old := a) rfl ?_)
  exact wpAny_pure (h _ _ F2 N2 lt)

theorem ega_kind : builtinKind "BaseException.__getattribute__" = some .slot := by decide +kernel
theorem ega_split : splitId "BaseException.__getattribute__" = some ("BaseException", "__getattribute__") := by decide +kernel
theorem ega_plain : plainId "BaseException.__getattribute__" = true := by decide +kernel

/-- an attribute of an exception is asked -/
theorem eget_open {ox : Obj} {od : Option Obj} {name : Str} {expr : Bool} {Q : Value → Shared → Prop} (X : K.In s.heap) (I : InstAt s.heap x ox C od) (hp : exIn K C = true) (hga : findIn K (.ref C) "__getattribute__" = some (some (.builtin "BaseException.__getattribute__"))) (hgh : findIn K (.ref C) "__getattr__" = some none)
    (h : wpAny (model prog w) A.in1 (Builtin.«object.__getattribute__» ⟨[.ref x, .str name s.toks], []⟩)
      (fun fin s' => match fin with | .done f => (match f with | .ret v => wpAny (model prog w) A (handedOut v) Q E s' | _ => False) | .again c' => c'.quiet = true ∧ codeAny (model prog w) A c' (fun r s' => match r with | .ok (.ret v) => wpAny (model prog w) A (handedOut v) Q E s' | _ => False) s') (fun _ _ => False) { s with toks := s.toks + 1 }) :
    wpAny (model prog w) A (getAttr (.ref x) name expr) Q E s := by
  obtain ⟨hh, g, d, t, os⟩ := s
  have L0 := I.type (M := model prog w)
  have L1 := looks_findIn (M := model prog w) X hga
  have L2 := looks_findIn (M := model prog w) X hgh
  have Y := ecls_of (M := model prog w) X hp
  have hx2 : (Value.builtin "BaseException.__getattribute__" == Value.builtin "object.__getattribute__") = false := by decide +kernel
  unfold getAttr getAttrBy
  refine wpAny_bind (wpAny_mkText (wpAny_holding (wpAny_bind (L0.at (wpAny_bind (L1.at ?_))))))
  dsimp only
  rw [hx2, Bool.and_false, if_neg (by decide)]
  unfold getAttrByItsOwn hookBefore
  show wpAny _ _ (typeLookup (.ref C) "__getattr__" >>= _) _ _ _
  refine wpAny_bind (L2.at ?_)
  refine wpAny_bind (wpAny_attempt (wpAny_holding ?_))
  unfold callGetattribute boundAndCalled
  rw [show (expr && onTheHeap (Value.builtin "BaseException.__getattribute__")) = false by cases expr <;> rfl]
  rw [if_neg (by decide)]
  rw [PySem.F.excAttr_ValueError.ga.bind]
  refine wpAny_bind (wpAny_pure ?_)
  show wpAny _ _ (call (.builtin "BaseException.__getattribute__") [.ref x, .str name t]) _ _ _
  refine wpAny_call ?_
  refine codeAny_call_builtin ega_plain PySem.F.entry_bexc_ga ?_
  refine @check_slot (model prog w) _ _ _ "BaseException.__getattribute__" "BaseException" "__getattribute__" (.ref x) [.str name t] [] _ ega_kind ega_split (L0.andThen Y.bexc) (PySem.F.args_bexc_ga _ _) ?_
  refine wpAny_mono h (fun fin s' z => ?_) fun _ _ z => z.elim
  rcases fin with f | c'
  · rcases f with _ | _ | _ | v <;> first | exact z | exact z.elim
  · refine ⟨z.1, codeAny_mono z.2 fun r s' z => ?_⟩
    rcases r with e | (_ | _ | _ | v) <;> first | exact z | exact z.elim

theorem eget_value {ox : Obj} {od : Option Obj} {name : Str} {expr : Bool} {v : Value} {Q : Value → Shared → Prop} (X : K.In s.heap) (I : InstAt s.heap x ox C od) (hp : exIn K C = true) (hga : findIn K (.ref C) "__getattribute__" = some (some (.builtin "BaseException.__getattribute__"))) (hgh : findIn K (.ref C) "__getattr__" = some none)
    (hf : findObj K C od name = some (.value v)) (hh : handedIn v = true) (h : Q v { s with toks := s.toks + 1 }) : wpAny (model prog w) A (getAttr (.ref x) name expr) Q E s := by
  refine eget_open X I hp hga hgh ?_
  obtain ⟨hh', g, d, t, os⟩ := s
  have L0 := I.type (M := model prog w)
  have L1 := looks_find (M := model prog w) X I hf
  unfold Builtin.«object.__getattribute__»
  repeat lk
  show wpAny _ _ (handedOut v) _ _ _
  rw [handedOut_of hh]; exact wpAny_pure h

/-- e.args -/
theorem eget_args {od : Option Addr} {oo : Option Obj} {tt : Addr} {tb ctx : Value} {expr : Bool} {Q : Value → Shared → Prop} (X : K.In s.heap) (I : InstAt s.heap x (excObj C od (.ref tt) tb ctx) C oo) (hp : exIn K C = true)
    (hga : findIn K (.ref C) "__getattribute__" = some (some (.builtin "BaseException.__getattribute__"))) (hgh : findIn K (.ref C) "__getattr__" = some none)
    (hf : findObj K C oo "args" = some (.bind (.builtin "getset_descriptor.__get__") (.builtin "BaseException.args"))) (h : Q (.ref tt) { s with toks := s.toks + 1 }) : wpAny (model prog w) A (getAttr (.ref x) "args" expr) Q E s := by
  refine eget_open X I hp hga hgh ?_
  have Y := ecls_of (M := model prog w) X hp
  obtain ⟨hh', g, d, t, os⟩ := s
  have L0 := I.type (M := model prog w)
  have L1 := looks_find (M := model prog w) X I hf
  have hx := I.at_
  unfold Builtin.«object.__getattribute__» bindTo
  repeat (first | with_reducible refine wpAny_call ?_ | lk)
  have hT5 : (⟨hh', g, d, t + 1, os⟩ : Shared).TypeIs (.builtin "BaseException.args") "getset_descriptor" := PySem.F.typeOf_bexc_args
  refine codeAny_call_builtin PySem.F.slot_gs_get.plain PySem.F.entry_gs_get (PySem.F.slot_gs_get.check _ _ _ _ _ _ _ _ hT5 (PySem.F.args_gs_get _ _ _) ?_)
  have b1 : Looks (model prog w) hh' (isSubtype (.ref C) (.type (descrOwnerAndName "BaseException.args").1)) true := by rw [args_owner]; exact Y.bexc
  unfold Builtin.«getset_descriptor.__get__» descrGet descrGetArgs descrGetter descrCheckInstance descrNameAndClass isInstance
  repeat (first | simp only [Bool.not_true, Bool.false_eq_true, if_false] | lk)
  refine ⟨Code.quiet_builtin _ (by decide +kernel), ?_⟩
  refine codeAny_builtin PySem.F.entry_bexc_args ?_
  unfold Builtin.«BaseException.args»
  refine wpAny_bind (wpAny_field hx rfl (x := .ref tt) rfl ?_)
  rw [show (Value.ref tt == doubtfulMember) = false by rfl, if_neg (by decide)]
  exact wpAny_pure (wpAny_pure (wpAny_pure h))
end
end Mine

end
section -- ExcD
set_option maxRecDepth 100000
set_option maxHeartbeats 4000000
set_option linter.unusedSimpArgs false
set_option linter.unusedVariables false
namespace Mine
open PySem PySem.W PySem.Calls PyProof.Rows PySem.Builtin PySem.Builtin.ObjectAttr PySem.Builtin.Getset_descriptor PySem.Builtin.BaseException

section
variable {prog : Program} {w : World} {A : Around} {E : Value → Shared → Prop} {K : Frag} {C x L : Addr} {s : Shared} {h₀ : Heap} {m : Str → Option Value} {news news' : List (Addr × Obj)} {name : Str} {v a tb ctx : Value}

theorem inst_exc {dx : Addr} {od : Obj} (N : News h₀ L s.heap news) (h1 : (x, excObj C (some dx) a tb ctx) ∈ news) (h2 : (dx, od) ∈ news) : InstAt s.heap x (excObj C (some dx) a tb ctx) C (some od) := ⟨(N _ h1).1, rfl, rfl, (N _ h2).1⟩

theorem set_exc {Q : Unit → Shared → Prop} {dx : Addr} {es es' : List DictEntry} {n n' : Nat} (F : Fr h₀ L s.heap m) (X₀ : K.In h₀) (N : News h₀ L s.heap news) (h1 : (x, excObj C (some dx) a tb ctx) ∈ news) (h2 : (dx, dictOf es n) ∈ news)
    (hs : findIn K (.ref C) "__setattr__" = some (some (.builtin "object.__setattr__"))) (hp : excOver K C = true) (ht : takerIn K C name = some none) (hh : hasDictIn K C = true) (hl : (getL name es).isSome = true)
    (e : (putL name (PyData.keyHash w.params name) (.str name (s.toks + 1)) v es, putN name es n) = (es', n')) (U : Upd dx (dictOf es n) (dictOf es' n') news news') (hz : es'.length ≤ 1000)
    (h : ∀ h', Fr h₀ L h' m → News h₀ L h' news' → Q () { s with heap := h', toks := s.toks + 2 }) :
    wpAny (model prog w) A (setAttr (.ref x) name v) Q E s := by
  have I := inst_exc N h1 h2
  obtain ⟨pre, post, rfl, rfl, a, b⟩ := U.split
  obtain ⟨e1, e2⟩ := Prod.mk.inj e
  subst e1 e2
  exact set_plain (X₀.keeps F.keep) I hs (eosa_dict (s := { s with toks := s.toks + 1 }) F N (X₀.keeps F.keep) I rfl hp ht hh hl a b hz fun h' F' N' => h h' F' N')

theorem set_excNew {Q : Unit → Shared → Prop} {g : Obj → List (Addr × Obj)} (F : Fr h₀ L s.heap m) (X₀ : K.In h₀) (N : News h₀ L s.heap news)
    (hs : findIn K (.ref C) "__setattr__" = some (some (.builtin "object.__setattr__"))) (U : UpdF x (excObj C none a tb ctx) news g) (hp : excOver K C = true) (ht : takerIn K C name = some none) (hh : hasDictIn K C = true)
    (h : ∀ h' dd, Fr h₀ L h' m → News h₀ L h' ((dd, dictOf [⟨PyData.keyHash w.params name, .str name (s.toks + 1), v⟩] 1) :: g (excObj C (some dd) a tb ctx)) → (∀ p ∈ news, p.1 < dd) → Q () { s with heap := h', toks := s.toks + 2 }) :
    wpAny (model prog w) A (setAttr (.ref x) name v) Q E s := by
  obtain ⟨pre, post, rfl, hg, h1, h2⟩ := U.split
  have hx := (N (x, excObj C none a tb ctx) (by simp)).1
  refine set_plain (ox := excObj C none a tb ctx) (od := none) (X₀.keeps F.keep) ⟨hx, rfl, rfl, trivial⟩ hs (eosa_new (s := { s with toks := s.toks + 1 }) F N (X₀.keeps F.keep) hp ht hh h1 h2 fun h' dd F' N' lt => h h' dd F' (by rw [hg]; exact N') lt)

theorem set_excArgs {Q : Unit → Shared → Prop} {od : Option Addr} {oo : Option Obj} {tt : Addr} {items : Array Value} (F : Fr h₀ L s.heap m) (X₀ : K.In h₀) (N : News h₀ L s.heap news) (I : InstAt s.heap x (excObj C od a tb ctx) C oo)
    (hs : findIn K (.ref C) "__setattr__" = some (some (.builtin "object.__setattr__"))) (hp : excOver K C = true) (hp' : exIn K C = true) (ht : takerIn K C "args" = some (some (.builtin "BaseException.args"))) (hT : IsTup s.heap tt items)
    (U : Upd x (excObj C od a tb ctx) (excObj C od (.ref tt) tb ctx) news news')
    (h : ∀ h', Fr h₀ L h' m → News h₀ L h' news' → Q () { s with heap := h', toks := s.toks + 1 }) :
    wpAny (model prog w) A (setAttr (.ref x) "args" (.ref tt)) Q E s := by
  obtain ⟨pre, post, rfl, rfl, a, b⟩ := U.split
  refine set_plain (X₀.keeps F.keep) I hs (eosa_open (s := { s with toks := s.toks + 1 }) (X₀.keeps F.keep) I hp ht fun _ => ?_)
  have hT5 : Looks (model prog w) ({ s with toks := s.toks + 1 } : Shared).heap (typeOf (.builtin "BaseException.args")) (.type "getset_descriptor") := Looks.of_pure PySem.F.typeOf_bexc_args
  refine wpAny_bind (wpAny_rule (wpAny_bind (wpAny_holding (wpAny_bind (wpAny_bind (hT5.here ((Looks.of_pure (h := ({ s with toks := s.toks + 1 } : Shared).heap) PySem.F.slot_gs_set.lookup).here (wpAny_holding ?_))))))))
  rw [PySem.F.slot_gs_set.bind]
  refine wpAny_bind (wpAny_pure (wpAny_bind (wpAny_call (args_set (s := { s with toks := s.toks + 1 }) F N (X₀.keeps F.keep) hp' a b hT fun h' F' N' => ?_))))
  exact wpAny_pure (wpAny_pure (h h' F' N'))

theorem call_einit {Q : Value → Shared → Prop} {od : Option Addr} {g : Obj → List (Addr × Obj)} (F : Fr h₀ L s.heap m) (X₀ : K.In h₀) (N : News h₀ L s.heap news) (U : UpdF x (excObj C od a tb ctx) news g) (hp : exIn K C = true)
    (h : ∀ h' tt, Fr h₀ L h' m → News h₀ L h' ((tt, tupObj [v]) :: g (excObj C od (.ref tt) tb ctx)) → (∀ p ∈ news, p.1 < tt) → Q .none { s with heap := h' }) :
    wpAny (model prog w) A (call (.builtin "Exception.__init__") [.ref x, v]) Q E s := by
  obtain ⟨pre, post, rfl, hg, h1, h2⟩ := U.split
  exact wpAny_call (exc_init F N (X₀.keeps F.keep) hp h1 h2 fun h' tt F' N' lt => h h' tt F' (by rw [hg]; exact N') lt)

theorem get_exc {Q : Value → Shared → Prop} {dx : Addr} {es : List DictEntry} {n : Nat} {expr : Bool} {attr : Option Value} (F : Fr h₀ L s.heap m) (X₀ : K.In h₀) (N : News h₀ L s.heap news) (h1 : (x, excObj C (some dx) a tb ctx) ∈ news) (h2 : (dx, dictOf es n) ∈ news)
    (hga : findIn K (.ref C) "__getattribute__" = some (some (.builtin "BaseException.__getattribute__"))) (hgh : findIn K (.ref C) "__getattr__" = some none) (hp : exIn K C = true) (hh : hasDictIn K C = true)
    (ha : findIn K (.ref C) name = some attr) (hn : noGet K attr = true) (hl : getL name es = some (some v)) (hv : handedIn v = true) (h : Q v { s with toks := s.toks + 1 }) :
    wpAny (model prog w) A (getAttr (.ref x) name expr) Q E s :=
  eget_value (X₀.keeps F.keep) (inst_exc N h1 h2) hp hga hgh (findObj_own hh ha hn hl) hv h

theorem get_excArgs {Q : Value → Shared → Prop} {od : Option Addr} {oo : Option Obj} {tt : Addr} {expr : Bool} (F : Fr h₀ L s.heap m) (X₀ : K.In h₀) (I : InstAt s.heap x (excObj C od (.ref tt) tb ctx) C oo)
    (hga : findIn K (.ref C) "__getattribute__" = some (some (.builtin "BaseException.__getattribute__"))) (hgh : findIn K (.ref C) "__getattr__" = some none) (hp : exIn K C = true)
    (ha : findIn K (.ref C) "args" = some (some (.builtin "BaseException.args"))) (hn : specialIn K (.builtin "BaseException.args") "__get__" = some (some (.builtin "getset_descriptor.__get__"))) (ht : takesIn K (.builtin "BaseException.args") = some true)
    (h : Q (.ref tt) { s with toks := s.toks + 1 }) : wpAny (model prog w) A (getAttr (.ref x) "args" expr) Q E s := by
  refine eget_args (X₀.keeps F.keep) I hp hga hgh ?_ h
  unfold findObj
  have : ∃ cd, clsIn K C = some cd := by
    unfold exIn at hp
    split at hp
    · rename_i od cd sl ho; exact ⟨cd, by unfold clsIn; rw [ho]⟩
    · cases hp
  obtain ⟨cd, hc⟩ := this
  rw [hc, Option.bind_some, ha, Option.bind_some]
  simp only [hn, ht, Option.bind_some]
theorem meta_Exception : typeOf (.type "Exception") = pure (.type "type") := by kernel_rfl
end
end Mine

end
section -- ExcE
set_option maxRecDepth 100000
set_option maxHeartbeats 4000000
set_option linter.unusedSimpArgs false
set_option linter.unusedVariables false
namespace Mine
open PySem PySem.W PySem.Calls PyProof.Rows

section
variable {prog : Program} {w : World} {A : Around} {E : Value → Shared → Prop} {K : Frag} {s : Shared} {base : Heap} {l : List Env} {news : List (Addr × Obj)} {R : Result → Shared → Prop} {p : Program} {loose : List Str} {mean : ExcName → Option Value} {mg mb : Str → Option Value}
/-- a def is called: the walk of its body stands on g, what there is but the ledger -/
theorem enterL {name qual : Str} {params : Arguments} {body : List Stmt} {scope : Scope} {dV kV doc pm cdv ct oc : Value} {an od : Option Addr} {osl : Array (Option Value)} {f : Addr} {args : Args} {binds : List (Str × Value)}
    (hA : A.frames = some l) (hst : base.StaysIn s.heap) (hff : s.heap.FunFrames base l) (X : K.In base) (T : Top p loose mean mg mb base)
    (N : ∀ q ∈ news, s.heap.get? q.1 = some q.2 ∧ base.get? q.1 = none ∧ q.1 ∉ l.filterMap (·.frame))
    (ho : K.lookup f = some ⟨oc, od, .func (fnOf name qual params body scope dV kV doc pm an cdv ct), osl⟩) (hcd : codeIn K cdv qual = true) (hroom : A.depth < recursionLimit)
    (hbind : BindsTo s (fnOf name qual params body scope dV kV doc pm an cdv ct) args binds) (hloc : ∀ y ∈ binds, scope.names.lookup y.1 = some .local)
    (h : ∀ g L' h₁, Fr g L' h₁ (fun y => binds.reverse.lookup y) → News g L' h₁ news → Below A base l g → K.In g → Top p loose mean mg mb g → L' = s.heap.objs.size → (∀ b o, s.heap.get? b = some o → b ∉ news.map (·.1) → g.get? b = some o) → (∀ b o, g.get? b = some o → s.heap.get? b = some o) → (∀ q ∈ news, q.1 < L') →
      wpAny (model prog w) (A.deeper (envOf qual scope L' f cdv)) (execs body (envOf qual scope L' f cdv))
        (fun fl s' => R (.ok (.ret (match fl with | .ret v => v | _ => .none))) s')
        (fun e s' => wpAny (model prog w) (A.deeper (envOf qual scope L' f cdv)) (leaving (envOf qual scope L' f cdv) e) (fun _ s'' => R (.error e) s'') (fun e' s'' => R (.error e') s'') s')
        { s with heap := h₁, toks := s.toks + binds.length })
    (hco : scope.isCoroutine = false) (hgen : scope.isGenerator = false) (hk : scope.kind = .function)
    (hcell : ∀ x ∈ scope.names, x.2 ≠ .cell) : codeAny (model prog w) A (.call (.ref f) args) R s := by
  have XS := X.keeps hst
  refine codeAny_call_def (fd := fnOf name qual params body scope dV kV doc pm an cdv ct) (body := body) (binds := binds) hroom (XS _ _ ho) rfl (T.nolimit.keeps hst) (codeRec_of XS hcd) rfl hbind hcell hloc (fun h₁ hns hk₁ => ?_) hco hgen hk
  have nb : ∀ b o, base.get? b = some o → b ∉ news.map (·.1) := fun b o e q => by
    obtain ⟨p, hp, rfl⟩ := List.mem_map.mp q
    rw [(N p hp).2.1] at e; cases e
  have st : base.StaysIn (hideAll s.heap (news.map (·.1))) := fun b o e => hideAll_get _ (hst b o e) (nb b o e)
  have fr : ∀ b, b ∈ l.filterMap (·.frame) → b ∉ news.map (·.1) := fun b hb q => by
    obtain ⟨p, hp, rfl⟩ := List.mem_map.mp q
    exact (N p hp).2.2 hb
  have BG : Below A base l (hideAll s.heap (news.map (·.1))) := ⟨hA, st, funFrames_hideAll hff fun env he a ha hf => fr a (List.mem_filterMap.mpr ⟨env, he, hf⟩) ha⟩
  have XG := X.keeps st
  have TG := T.keeps st
  exact h (hideAll s.heap (news.map (·.1))) s.heap.objs.size h₁ ⟨hns, fun b o e => hk₁ b o (of_hideAll _ e), Nat.le_of_eq (hideAll_size _ _)⟩
    (fun p hp => ⟨hk₁ _ _ (N p hp).1, Nat.ne_of_lt (Heap.lt_size (N p hp).1), hideAll_none _ (List.mem_map_of_mem hp)⟩) BG XG TG rfl
    (fun b o e q => hideAll_get _ e q) (fun b o e => of_hideAll _ e) (fun p hp => Heap.lt_size (N p hp).1)

/-- a def is called that turns nothing of what there is -/
theorem enter0 {name qual : Str} {params : Arguments} {body : List Stmt} {scope : Scope} {dV kV doc pm cdv ct oc : Value} {an od : Option Addr} {osl : Array (Option Value)} {f : Addr} {args : Args} {binds : List (Str × Value)}
    (hA : A.frames = some l) (hst : base.StaysIn s.heap) (hff : s.heap.FunFrames base l) (X : K.In base) (T : Top p loose mean mg mb base)
    (ho : K.lookup f = some ⟨oc, od, .func (fnOf name qual params body scope dV kV doc pm an cdv ct), osl⟩) (hcd : codeIn K cdv qual = true) (hroom : A.depth < recursionLimit)
    (hbind : BindsTo s (fnOf name qual params body scope dV kV doc pm an cdv ct) args binds) (hloc : ∀ y ∈ binds, scope.names.lookup y.1 = some .local)
    (h : ∀ L' h₁, Fr s.heap L' h₁ (fun y => binds.reverse.lookup y) → News s.heap L' h₁ [] → Below A base l s.heap → K.In s.heap → Top p loose mean mg mb s.heap →
      wpAny (model prog w) (A.deeper (envOf qual scope L' f cdv)) (execs body (envOf qual scope L' f cdv))
        (fun fl s' => R (.ok (.ret (match fl with | .ret v => v | _ => .none))) s')
        (fun e s' => wpAny (model prog w) (A.deeper (envOf qual scope L' f cdv)) (leaving (envOf qual scope L' f cdv) e) (fun _ s'' => R (.error e) s'') (fun e' s'' => R (.error e') s'') s')
        { s with heap := h₁, toks := s.toks + binds.length })
    (hco : scope.isCoroutine = false) (hgen : scope.isGenerator = false) (hk : scope.kind = .function)
    (hcell : ∀ x ∈ scope.names, x.2 ≠ .cell) : codeAny (model prog w) A (.call (.ref f) args) R s := by
  have XS := X.keeps hst
  refine codeAny_call_def (fd := fnOf name qual params body scope dV kV doc pm an cdv ct) (body := body) (binds := binds) hroom (XS _ _ ho) rfl (T.nolimit.keeps hst) (codeRec_of XS hcd) rfl hbind hcell hloc (fun h₁ hns hk₁ => ?_) hco hgen hk
  exact h s.heap.objs.size h₁ ⟨hns, hk₁, Nat.le_refl _⟩ News.nil ⟨hA, hst, hff⟩ XS (T.keeps hst)
end
end Mine

end
section -- ExcF
set_option maxRecDepth 100000
set_option maxHeartbeats 4000000
set_option linter.unusedSimpArgs false
set_option linter.unusedVariables false
namespace Mine
open PySem PySem.W PySem.Calls PyProof.Rows PySem.Builtin PySem.Builtin.Str

theorem fmt_args5 (a b c d e : Value) : argsOk "str.format" ⟨[a, b, c, d, e], []⟩ := by unfold argsOk; kernel_rfl
section
variable {prog : Program} {w : World} {A : Around} {E : Value → Shared → Prop} {s : Shared}
theorem reprL {x y : PySem.Str} {t : Tok} {Q : Value → Shared → Prop} (e : reprText x = y) (hz : y.length ≤ sizeLine) (h : Q (.str y s.toks) { s with toks := s.toks + 1 }) : wpAny (model prog w) A (pyReprObj (.str x t)) Q E s :=
  pyReprObj_str (by rw [e]; exact h) (by rw [e]; exact hz)
theorem call_reprL {x y : PySem.Str} {t : Tok} {Q : Value → Shared → Prop} (e : reprText x = y) (hz : y.length ≤ sizeLine) (h : Q (.str y s.toks) { s with toks := s.toks + 1 }) : wpAny (model prog w) A (call (.builtin "repr") [.str x t]) Q E s :=
  P.repr_of_str (by rw [e]; exact h) (by rw [e]; exact hz)

theorem field_index0 {id : String} {a : Array Value} {byName : PySem.Str → Sem Value} {v : Value} {Q : Value × Numbering → Shared → Prop} (ha : a[0]? = some v)
    (h : Q (v, .manual) s) : wpAny (model prog w) A (fieldObject id (some a) byName [48] .unset) Q E s := by
  unfold fieldObject
  first
    | refine wpAny_bind (wpAny_pure ?_)
    | refine wpAny_bind (wpAny_of_eq (a := some 0) rfl ?_)
  first
    | refine wpAny_bind (wpAny_pure ?_)
    | refine wpAny_bind (wpAny_of_eq (a := (some 0, .manual)) rfl ?_)
  simp only [ha, pure_bind]
  rw [KPc.range_list]
  exact wpAny_bind (wpAny_pure (wpAny_pure h))

theorem cut_int (n : Int) (t : Tok) : typeNameOfCut 200 (.int n t) = pure "int" := by kernel_rfl
theorem gives_int_2d (n : Int) (x : PySem.Str) (t u : Tok) (e : «int.__format__» ⟨[.int n t, .str "2d" u], []⟩ = (typeNameOf (.str "2d" u) >>= fun _ => typeNameOfCut 200 (.int n t) >>= fun _ => retStr x)) :
    Gives («int.__format__» ⟨[.int n t, .str "2d" u], []⟩) (.str x) := by
  rw [e]
  refine gives_after_typeNameOf (T := "str") (fun s => typeIs_str s _ _) (by decide) fun _ => ?_
  rw [cut_int]
  exact Gives.tree (.str x)
/-- format(n, "2d") -/
theorem formatOf_2d {n : Int} {u : Tok} {x : PySem.Str} {Q : Value → Shared → Prop} (hx : x.length ≤ sizeLine) (e : ∀ t u, «int.__format__» ⟨[.int n t, .str "2d" u], []⟩ = (typeNameOf (.str "2d" u) >>= fun _ => typeNameOfCut 200 (.int n t) >>= fun _ => retStr x))
    (h : ∀ t' k, Q (.str x t') { s with toks := k }) : wpAny (model prog w) A (formatOf (.int n u) "2d") Q E s := by
  unfold PySem.Builtin.Str.formatOf
  refine wpAny_ite (KPc.ite_no Bool.false_ne_true ?_)
  refine wpAny_bind (wpAny_mkStr ?_ (by decide))
  refine wpAny_bind (m := callSpecial? (.int n u) (PySem.Str.ofString "__format__") [.str "2d" s.toks]) (wpAny_callSpecial?_slot (name := PySem.Str.ofString "__format__") (typeIs_int _ n u) F.slot_int_format
    (call_gives F.slot_int_format (typeIs_int _ n u) F.entry_int_format (F.args_int_format_2 _ _) (gives_int_2d n x u _ (e _ _)) ⟨hx, ?_⟩))
  refine wpAny_bind (wpAny_of_eq (a := some x) rfl ?_)
  refine wpAny_ite (KPc.ite_no Bool.false_ne_true ?_)
  exact wpAny_pure (h _ _)
theorem t20 (t u : Tok) : «int.__format__» ⟨[.int 20 t, .str "2d" u], []⟩ = (typeNameOf (.str "2d" u) >>= fun _ => typeNameOfCut 200 (.int 20 t) >>= fun _ => retStr "20") := by kernel_rfl
end
end Mine

end
section -- ExcG
open PySem PySem.W PyProof.Rows Mine PySem.Builtin PySem.Builtin.Str
set_option maxRecDepth 100000
set_option maxHeartbeats 400000
set_option linter.unusedVariables false
namespace Mine
def cut (x : String) : List Nat := (PySem.Str.ofString x).cps.toList
def rF : Field := { name := [], conversion := some 114 }
def pF : Field := { name := [] }
def fA0 := cut "Bad value substitution: option {!r} in section {!r} contains an interpolation key {!r} which is not a valid option name. Raw value: {!r}"
def fA1 := cut " in section {!r} contains an interpolation key {!r} which is not a valid option name. Raw value: {!r}"
def fA2 := cut " contains an interpolation key {!r} which is not a valid option name. Raw value: {!r}"
def fA3 := cut " which is not a valid option name. Raw value: {!r}"
theorem fA0_eq : nextMarkup fA0 = .ok (cut "Bad value substitution: option ", some rF, fA1) := by kernel_rfl
theorem fA1_eq : nextMarkup fA1 = .ok (cut " in section ", some rF, fA2) := by kernel_rfl
theorem fA2_eq : nextMarkup fA2 = .ok (cut " contains an interpolation key ", some rF, fA3) := by kernel_rfl
theorem fA3_eq : nextMarkup fA3 = .ok (cut " which is not a valid option name. Raw value: ", some rF, []) := by kernel_rfl
theorem fA_fmt {prog : Program} {w : World} {A : Around} {E : Value → Shared → Prop} {s : Shared} {t a b c d : Tok} {Q : Value → Shared → Prop}
   (h : ∀ t' k, Q (.str (PySem.Str.ofString "Bad value substitution: option 7 in section 's' contains an interpolation key 'r' which is not a valid option name. Raw value: 'v'") t') { s with toks := k }) :
   wpAny (model prog w) A (call (.builtin "str.format") [.str (PySem.Str.ofString "Bad value substitution: option {!r} in section {!r} contains an interpolation key {!r} which is not a valid option name. Raw value: {!r}") t, .int 7 a, .str (PySem.Str.ofString "s") b, .str (PySem.Str.ofString "r") c, .str (PySem.Str.ofString "v") d]) Q E s := by
  refine KFm.call_k (T := PySem.Str.ofString "Bad value substitution: option 7 in section 's' contains an interpolation key 'r' which is not a valid option name. Raw value: 'v'") rfl (fmt_args5 _ _ _ _ _) ?kfmm h
  apply KPc.meets_of
  intro prog w A s Q E hQ
  unfold Builtin.«str.format»
  refine wpAny_bind (wpAny_of_eq (a := (_, _, _)) rfl ?_)
  refine wpAny_bind ?_
  show wpAny _ _ (buildString "str.format" _ _ 2 fA0 _ _) _ _ _
  have l0 : fA0.length = 136 := by decide +kernel
  unfold Builtin.Str.buildString
  refine wpAny_bind ?_
  rw [KPc.range_list, l0]
  refine KFm.start ?_
  intro w0 g0
  refine KPc.turn ?_
  kpc_if
  kpc_check
  dsimp only
  rw [fA0_eq]
  dsimp only
  refine wpAny_bind (KFm.field_auto (by kfm_num) rfl ?_)
  refine wpAny_bind (wpAny_holding ?_)
  show wpAny _ _ (pyReprObj _) _ _ _
  refine pyReprObj_int (by decide +kernel) ?_
  refine wpAny_ite (KPc.ite_no Bool.false_ne_true ?_)
  refine wpAny_bind (wpAny_pure ?_)
  refine wpAny_bind (wpAny_holding (wpAny_of_eq (KFm.formatOf_str _ _) ?_))
  refine wpAny_bind (wpAny_of_eq (a := some _) rfl ?_)
  refine wpAny_pure ?_
  refine KFm.after_field g0 (x' := PySem.Str.ofString "Bad value substitution: option ") (K := 1) (T' := PySem.Str.ofString "Bad value substitution: option 7") (r' := fA1) (by decide +kernel) (by kpc_obj) (by decide +kernel) (by kpc_obj) (by decide +kernel) rfl ?_
  intro w1 g1
  refine KPc.turn ?_
  kpc_if
  kpc_check
  dsimp only
  rw [fA1_eq]
  dsimp only
  refine wpAny_bind (KFm.field_auto (by kfm_num) rfl ?_)
  refine wpAny_bind (wpAny_holding ?_)
  show wpAny _ _ (pyReprObj _) _ _ _
  refine reprL (y := PySem.Str.ofString "'s'") (by decide +kernel) (by decide +kernel) ?_
  refine wpAny_ite (KPc.ite_no Bool.false_ne_true ?_)
  refine wpAny_bind (wpAny_pure ?_)
  refine wpAny_bind (wpAny_holding (wpAny_of_eq (KFm.formatOf_str _ _) ?_))
  refine wpAny_bind (wpAny_of_eq (a := some _) rfl ?_)
  refine wpAny_pure ?_
  refine KFm.after_field g1 (x' := PySem.Str.ofString " in section ") (K := 3) (T' := PySem.Str.ofString "Bad value substitution: option 7 in section 's'") (r' := fA2) (by decide +kernel) (by kpc_obj) (by decide +kernel) (by kpc_obj) (by decide +kernel) rfl ?_
  intro w2 g2
  refine KPc.turn ?_
  kpc_if
  kpc_check
  dsimp only
  rw [fA2_eq]
  dsimp only
  refine wpAny_bind (KFm.field_auto (by kfm_num) rfl ?_)
  refine wpAny_bind (wpAny_holding ?_)
  show wpAny _ _ (pyReprObj _) _ _ _
  refine reprL (y := PySem.Str.ofString "'r'") (by decide +kernel) (by decide +kernel) ?_
  refine wpAny_ite (KPc.ite_no Bool.false_ne_true ?_)
  refine wpAny_bind (wpAny_pure ?_)
  refine wpAny_bind (wpAny_holding (wpAny_of_eq (KFm.formatOf_str _ _) ?_))
  refine wpAny_bind (wpAny_of_eq (a := some _) rfl ?_)
  refine wpAny_pure ?_
  refine KFm.after_field g2 (x' := PySem.Str.ofString " contains an interpolation key ") (K := 3) (T' := PySem.Str.ofString "Bad value substitution: option 7 in section 's' contains an interpolation key 'r'") (r' := fA3) (by decide +kernel) (by kpc_obj) (by decide +kernel) (by kpc_obj) (by decide +kernel) rfl ?_
  intro w3 g3
  refine KPc.turn ?_
  kpc_if
  kpc_check
  dsimp only
  rw [fA3_eq]
  dsimp only
  refine wpAny_bind (KFm.field_auto (by kfm_num) rfl ?_)
  refine wpAny_bind (wpAny_holding ?_)
  show wpAny _ _ (pyReprObj _) _ _ _
  refine reprL (y := PySem.Str.ofString "'v'") (by decide +kernel) (by decide +kernel) ?_
  refine wpAny_ite (KPc.ite_no Bool.false_ne_true ?_)
  refine wpAny_bind (wpAny_pure ?_)
  refine wpAny_bind (wpAny_holding (wpAny_of_eq (KFm.formatOf_str _ _) ?_))
  refine wpAny_bind (wpAny_of_eq (a := some _) rfl ?_)
  refine wpAny_pure ?_
  refine KFm.after_field g3 (x' := PySem.Str.ofString " which is not a valid option name. Raw value: ") (K := 3) (T' := PySem.Str.ofString "Bad value substitution: option 7 in section 's' contains an interpolation key 'r' which is not a valid option name. Raw value: 'v'") (r' := []) (by decide +kernel) (by kpc_obj) (by decide +kernel) (by kpc_obj) (by decide +kernel) rfl ?_
  intro w4 g4
  refine KPc.turn ?_
  kpc_if
  refine wpAny_pure ?_
  refine wpAny_pure ?_
  exact KPc.finish_ok g4 (by decide +kernel) rfl hQ
def fB0 := cut "Recursion limit exceeded in value substitution: option {!r} in section {!r} contains an interpolation key which cannot be substituted in {} steps. Raw value: {!r}"
def fB1 := cut " in section {!r} contains an interpolation key which cannot be substituted in {} steps. Raw value: {!r}"
def fB2 := cut " contains an interpolation key which cannot be substituted in {} steps. Raw value: {!r}"
def fB3 := cut " steps. Raw value: {!r}"
theorem fB0_eq : nextMarkup fB0 = .ok (cut "Recursion limit exceeded in value substitution: option ", some rF, fB1) := by kernel_rfl
theorem fB1_eq : nextMarkup fB1 = .ok (cut " in section ", some rF, fB2) := by kernel_rfl
theorem fB2_eq : nextMarkup fB2 = .ok (cut " contains an interpolation key which cannot be substituted in ", some pF, fB3) := by kernel_rfl
theorem fB3_eq : nextMarkup fB3 = .ok (cut " steps. Raw value: ", some rF, []) := by kernel_rfl
theorem fB_fmt {prog : Program} {w : World} {A : Around} {E : Value → Shared → Prop} {s : Shared} {t a b c d : Tok} {Q : Value → Shared → Prop}
   (h : ∀ t' k, Q (.str (PySem.Str.ofString "Recursion limit exceeded in value substitution: option 8 in section 's' contains an interpolation key which cannot be substituted in 10 steps. Raw value: 'w'") t') { s with toks := k }) :
   wpAny (model prog w) A (call (.builtin "str.format") [.str (PySem.Str.ofString "Recursion limit exceeded in value substitution: option {!r} in section {!r} contains an interpolation key which cannot be substituted in {} steps. Raw value: {!r}") t, .int 8 a, .str (PySem.Str.ofString "s") b, .int 10 c, .str (PySem.Str.ofString "w") d]) Q E s := by
  refine KFm.call_k (T := PySem.Str.ofString "Recursion limit exceeded in value substitution: option 8 in section 's' contains an interpolation key which cannot be substituted in 10 steps. Raw value: 'w'") rfl (fmt_args5 _ _ _ _ _) ?kfmm h
  apply KPc.meets_of
  intro prog w A s Q E hQ
  unfold Builtin.«str.format»
  refine wpAny_bind (wpAny_of_eq (a := (_, _, _)) rfl ?_)
  refine wpAny_bind ?_
  show wpAny _ _ (buildString "str.format" _ _ 2 fB0 _ _) _ _ _
  have l0 : fB0.length = 162 := by decide +kernel
  unfold Builtin.Str.buildString
  refine wpAny_bind ?_
  rw [KPc.range_list, l0]
  refine KFm.start ?_
  intro w0 g0
  refine KPc.turn ?_
  kpc_if
  kpc_check
  dsimp only
  rw [fB0_eq]
  dsimp only
  refine wpAny_bind (KFm.field_auto (by kfm_num) rfl ?_)
  refine wpAny_bind (wpAny_holding ?_)
  show wpAny _ _ (pyReprObj _) _ _ _
  refine pyReprObj_int (by decide +kernel) ?_
  refine wpAny_ite (KPc.ite_no Bool.false_ne_true ?_)
  refine wpAny_bind (wpAny_pure ?_)
  refine wpAny_bind (wpAny_holding (wpAny_of_eq (KFm.formatOf_str _ _) ?_))
  refine wpAny_bind (wpAny_of_eq (a := some _) rfl ?_)
  refine wpAny_pure ?_
  refine KFm.after_field g0 (x' := PySem.Str.ofString "Recursion limit exceeded in value substitution: option ") (K := 1) (T' := PySem.Str.ofString "Recursion limit exceeded in value substitution: option 8") (r' := fB1) (by decide +kernel) (by kpc_obj) (by decide +kernel) (by kpc_obj) (by decide +kernel) rfl ?_
  intro w1 g1
  refine KPc.turn ?_
  kpc_if
  kpc_check
  dsimp only
  rw [fB1_eq]
  dsimp only
  refine wpAny_bind (KFm.field_auto (by kfm_num) rfl ?_)
  refine wpAny_bind (wpAny_holding ?_)
  show wpAny _ _ (pyReprObj _) _ _ _
  refine reprL (y := PySem.Str.ofString "'s'") (by decide +kernel) (by decide +kernel) ?_
  refine wpAny_ite (KPc.ite_no Bool.false_ne_true ?_)
  refine wpAny_bind (wpAny_pure ?_)
  refine wpAny_bind (wpAny_holding (wpAny_of_eq (KFm.formatOf_str _ _) ?_))
  refine wpAny_bind (wpAny_of_eq (a := some _) rfl ?_)
  refine wpAny_pure ?_
  refine KFm.after_field g1 (x' := PySem.Str.ofString " in section ") (K := 3) (T' := PySem.Str.ofString "Recursion limit exceeded in value substitution: option 8 in section 's'") (r' := fB2) (by decide +kernel) (by kpc_obj) (by decide +kernel) (by kpc_obj) (by decide +kernel) rfl ?_
  intro w2 g2
  refine KPc.turn ?_
  kpc_if
  kpc_check
  dsimp only
  rw [fB2_eq]
  dsimp only
  refine wpAny_bind (KFm.field_auto (by kfm_num) rfl ?_)
  refine wpAny_bind (wpAny_holding (wpAny_of_eq (a := _) rfl ?_))
  refine wpAny_ite (KPc.ite_no Bool.false_ne_true ?_)
  refine wpAny_bind (wpAny_pure ?_)
  refine wpAny_bind (wpAny_holding (KFm.formatOf_int (by decide +kernel) ?_))
  intro _ _
  refine wpAny_bind (wpAny_of_eq (a := some _) rfl ?_)
  refine wpAny_pure ?_
  refine KFm.after_field g2 (x' := PySem.Str.ofString " contains an interpolation key which cannot be substituted in ") (K := 2) (T' := PySem.Str.ofString "Recursion limit exceeded in value substitution: option 8 in section 's' contains an interpolation key which cannot be substituted in 10") (r' := fB3) (by decide +kernel) (by kpc_obj) (by decide +kernel) (by kpc_obj) (by decide +kernel) rfl ?_
  intro w3 g3
  refine KPc.turn ?_
  kpc_if
  kpc_check
  dsimp only
  rw [fB3_eq]
  dsimp only
  refine wpAny_bind (KFm.field_auto (by kfm_num) rfl ?_)
  refine wpAny_bind (wpAny_holding ?_)
  show wpAny _ _ (pyReprObj _) _ _ _
  refine reprL (y := PySem.Str.ofString "'w'") (by decide +kernel) (by decide +kernel) ?_
  refine wpAny_ite (KPc.ite_no Bool.false_ne_true ?_)
  refine wpAny_bind (wpAny_pure ?_)
  refine wpAny_bind (wpAny_holding (wpAny_of_eq (KFm.formatOf_str _ _) ?_))
  refine wpAny_bind (wpAny_of_eq (a := some _) rfl ?_)
  refine wpAny_pure ?_
  refine KFm.after_field g3 (x' := PySem.Str.ofString " steps. Raw value: ") (K := 3) (T' := PySem.Str.ofString "Recursion limit exceeded in value substitution: option 8 in section 's' contains an interpolation key which cannot be substituted in 10 steps. Raw value: 'w'") (r' := []) (by decide +kernel) (by kpc_obj) (by decide +kernel) (by kpc_obj) (by decide +kernel) rfl ?_
  intro w4 g4
  refine KPc.turn ?_
  kpc_if
  refine wpAny_pure ?_
  refine wpAny_pure ?_
  exact KPc.finish_ok g4 (by decide +kernel) rfl hQ
end Mine

end
section -- ExcH
set_option maxRecDepth 100000
set_option maxHeartbeats 4000000
set_option linter.unusedSimpArgs false
set_option linter.unusedVariables false
namespace Mine
open PySem PySem.W PySem.Calls PyProof.Rows

def isTb (o : Obj) : Prop := o.cls = .type "traceback" ∧ ∃ vs, o.data = .fields vs
/-- what stands, but X, but the frames' slots, but tracebacks -/
def Kept (fs X : List Addr) (h h' : Heap) : Prop := ∀ b o, h.get? b = some o → b ∉ X → ¬ isTb o → ∃ sl, h'.get? b = some { o with slots := sl } ∧ (b ∉ fs → sl = o.slots)
theorem Kept.refl {fs X : List Addr} {h : Heap} : Kept fs X h h := fun _ o e _ _ => ⟨o.slots, e, fun _ => rfl⟩
theorem isTb_slots {o : Obj} {sl : Array (Option Value)} (h : ¬ isTb o) : ¬ isTb { o with slots := sl } := h
theorem Kept.trans {fs X : List Addr} {h h₁ h₂ : Heap} (x : Kept fs X h h₁) (y : Kept fs X h₁ h₂) : Kept fs X h h₂ := fun b o e hx hb => by
  obtain ⟨sl, e1, k1⟩ := x b o e hx hb
  obtain ⟨sl2, e2, k2⟩ := y b _ e1 hx hb
  exact ⟨sl2, e2, fun n => (k2 n).trans (k1 n)⟩
theorem Kept.of_keeps {fs X : List Addr} {h h' : Heap} (k : ∀ b o, h.get? b = some o → h'.get? b = some o) : Kept fs X h h' := fun b o e _ _ => ⟨o.slots, k b o e, fun _ => rfl⟩
theorem Kept.mono {fs fs' X X' : List Addr} {h h' : Heap} (x : Kept fs X h h') (h1 : ∀ b ∈ fs, b ∈ fs') (h2 : ∀ b ∈ X, b ∈ X') : Kept fs' X' h h' := fun b o e hx hb => by
  obtain ⟨sl, e1, k1⟩ := x b o e (fun q => hx (h2 b q)) hb
  exact ⟨sl, e1, fun n => k1 fun q => n (h1 b q)⟩
/-- of the new things only what was there counts -/
theorem Kept.old {fs fs' X X' : List Addr} {h h₁ h₂ : Heap} (k : ∀ b o, h.get? b = some o → h₁.get? b = some o) (x : Kept fs' X' h₁ h₂) (h1 : ∀ b ∈ fs', b ∈ fs ∨ h.get? b = none) (h2 : ∀ b ∈ X', b ∈ X ∨ h.get? b = none) : Kept fs X h h₂ := fun b o e hx hb => by
  obtain ⟨sl, e1, k1⟩ := x b o (k b o e) (fun q => (h2 b q).elim hx fun z => by rw [e] at z; cases z) hb
  exact ⟨sl, e1, fun n => k1 fun q => (h1 b q).elim n fun z => by rw [e] at z; cases z⟩
theorem Kept.get {fs X : List Addr} {h h' : Heap} (x : Kept fs X h h') {b : Addr} {o : Obj} (e : h.get? b = some o) (hx : b ∉ X) (hb : ¬ isTb o) (hf : b ∉ fs) : h'.get? b = some o := by
  obtain ⟨sl, e1, k1⟩ := x b o e hx hb
  rw [e1, k1 hf]
theorem Kept.ns {fs X : List Addr} {h h' : Heap} (x : Kept fs X h h') {L : Addr} {m : Str → Option Value} (hn : h.Ns L m) (hx : L ∉ X) : h'.Ns L m := by
  obtain ⟨o, es, ep, ho, hd, r⟩ := hn
  obtain ⟨sl, e1, _⟩ := x L o ho hx fun q => by obtain ⟨_, vs, hv⟩ := q; rw [hd] at hv; cases hv
  exact ⟨_, es, ep, e1, hd, r⟩
theorem Kept.funFrames {fs X : List Addr} {base h h' : Heap} (x : Kept fs X h h') : ∀ {l : List Env}, h.FunFrames base l → (∀ b ∈ l.filterMap (·.frame), b ∉ X) → h'.FunFrames base l
  | [], _, _ => trivial
  | env :: r, ⟨hk, ⟨L, o, hf, hn, ho, hd⟩, hr⟩, hx => by
    have hL : L ∉ X := hx L (List.mem_filterMap.mpr ⟨env, .head _, hf⟩)
    obtain ⟨sl, e1, _⟩ := x L o ho hL fun q => by obtain ⟨_, vs, hv⟩ := q; exact hd vs hv
    exact ⟨hk, ⟨L, _, hf, hn, e1, hd⟩, Kept.funFrames x hr fun b hb => hx b (by obtain ⟨e, he, hq⟩ := List.mem_filterMap.mp hb; exact List.mem_filterMap.mpr ⟨e, .tail _ he, hq⟩)⟩

/-- its traceback's head, and whether it flies -/
def Fly (base h : Heap) (e : Addr) (tb fl : Value) : Prop := ∃ T oT ts, tb = .ref T ∧ T ≠ e ∧ base.get? T = none ∧ h.get? T = some oT ∧ oT.cls = .type "traceback" ∧ oT.data = .fields ts ∧ ts[3]? = some fl

section
variable {M : Model} {A : Around} {E : Value → Shared → Prop} {s : Shared} {base : Heap} {env : Env} {outer : List Env} {L e C : Addr} {d : Option Addr} {a tb ctx fl : Value} {Q : Unit → Shared → Prop}

theorem upd_tb {h : Heap} (he : h.get? e = some (excObj C d a tb ctx)) (v : Value) : (h.update e (Obj.mapFields (·.setIfInBounds 1 v))).get? e = some (excObj C d a v ctx) := Heap.get?_update_self _ he rfl

/-- the frame's entry is laid -/
theorem entry_laid {head : Value} {hadNext : Bool} (hfr : A.frames = some (env :: outer)) (hl : s.heap.FunFrames base (env :: outer)) (hf : env.frame = some L)
    (he : s.heap.get? e = some (excObj C d a tb ctx)) (hst : base.StaysIn s.heap) (hen : base.get? e = none)
    (h : ∀ h' tb', h'.get? e = some (excObj C d a tb' ctx) → Fly base h' e tb' (rawInt L) → Kept ((env :: outer).filterMap (·.frame)) [e] s.heap h' → base.StaysIn h' → Q () { s with heap := h' }) :
    wpAny M A (do let a ← frameOf env; let pl ← entryPlaceOf L hadNext; let b ← EntryCells.newEntry head a .none (rawInt L) .none pl; setField (.ref e) 1 b) Q E s := by
  have hene : e ∉ (env :: outer).filterMap (·.frame) := fun hm => by
    obtain ⟨_, o, ho, hnf⟩ := hl.mem hm
    rw [he] at ho; injection ho with ho; subst ho; exact hnf _ rfl
  refine wpAny_bind (wpAny_frameOf_fun hfr hl hf fun h₁ hs₁ => ?_)
  refine wpAny_bind (wpAny_entryPlaceOf fun pl hpl => ?_)
  unfold EntryCells.newEntry newFields
  refine wpAny_bind (wpAny_newObj_type ?_ (hpl.sizeOk5 _ _ _ _ _))
  have he₁ : h₁.get? e = some (excObj C d a tb ctx) := (hs₁.2.1 e hene).trans he
  have kb₁ : base.StaysIn h₁ := fun b o hbo => (hs₁.2.1 b fun hm => by rw [(hl.mem hm).1] at hbo; cases hbo).trans (hst b o hbo)
  generalize hT : ({ cls := .type "traceback", dict := none, data := .fields ([head, .ref L, .none, rawInt L, .none] ++ (if pl.isEmpty then List.replicate 6 Value.none else pl)).toArray } : Obj) = oT
  have he₂ := Heap.get?_push_of_some (h := h₁) oT he₁
  refine wpAny_setField he₂ rfl (Nat.le_of_ble_eq_true rfl) (h _ (.ref h₁.objs.size) (upd_tb he₂ _) ?_ ?_ ?_)
  · have hTe : h₁.objs.size ≠ e := Nat.ne_of_gt (Heap.lt_size he₁)
    have hT₃ := (Heap.get?_update_other (h₁.push oT) (Obj.mapFields (·.setIfInBounds 1 (Value.ref h₁.objs.size))) (Ne.symm hTe)).trans (Heap.get?_push_size h₁ (by subst hT; rfl))
    refine ⟨h₁.objs.size, oT, _, rfl, hTe, kb₁.fresh, hT₃, by subst hT; rfl, by subst hT; rfl, ?_⟩
    first | (simp; done) | (rcases hpl with rfl | ⟨_, _, _, _, _, _, _, rfl⟩ <;> simp)
  · intro b o hb hx hnt
    have hbe : b ≠ e := fun q => hx (by rw [q]; exact .head _)
    obtain ⟨sl, hs⟩ := hs₁.2.2 b o hb
    refine ⟨sl, ?_, fun n => ?_⟩
    · rw [Heap.get?_update_other _ _ (Ne.symm hbe)]
      exact Heap.get?_push_of_some _ hs
    · have := hs₁.2.1 b n
      rw [hs, hb] at this
      injection this with this
      exact congrArg Obj.slots this
  · intro b o hbo
    have hbe : b ≠ e := fun q => by rw [q, hen] at hbo; cases hbo
    rw [Heap.get?_update_other _ _ (Ne.symm hbe)]
    exact Heap.get?_push_of_some _ (kb₁ b o hbo)

/-- the traceback's head is told whether it flies -/
theorem flight_set {fr : Option Addr} (he : s.heap.get? e = some (excObj C d a tb ctx)) (hF : Fly base s.heap e tb fl) (hst : base.StaysIn s.heap) (fs : List Addr)
    (h : ∀ h', h'.get? e = some (excObj C d a tb ctx) → Fly base h' e tb (fr.elim .none fun f => rawInt f) → Kept fs [e] s.heap h' → base.StaysIn h' → Q () { s with heap := h' }) :
    wpAny M A (setFlight (.ref e) fr) Q E s := by
  obtain ⟨T, oT, ts, rfl, hTe, hTb, hT, hTc, hTd, h3⟩ := hF
  have hsz3 : 3 < ts.size := (Array.getElem?_eq_some_iff.mp h3).1
  have other : ∀ b, b ≠ T → (s.heap.update T (Obj.mapFields (·.setIfInBounds 3 (fr.elim Value.none fun f => rawInt f)))).get? b = s.heap.get? b := fun b hb => Heap.get?_update_other _ _ (Ne.symm hb)
  unfold setFlight
  refine wpAny_bind (wpAny_field he rfl (x := .ref T) rfl ?_)
  rw [if_pos (show (Value.ref T != Value.none) = true from by simp)]
  refine wpAny_setField hT hTd hsz3 (h _ ((other e (Ne.symm hTe)).trans he) ?_ ?_ ?_)
  · exact ⟨T, _, _, rfl, hTe, hTb, Heap.get?_update_self _ hT (Obj.isFreed_of_fields (Obj.data_mapFields hTd _)), (Obj.cls_mapFields _ _).trans hTc, Obj.data_mapFields hTd _, by simp [hsz3]⟩
  · intro b o hb hx hnt
    refine ⟨o.slots, ?_, fun _ => rfl⟩
    rw [other b fun q => hnt ?_]
    · exact hb
    · rw [q, hT] at hb; injection hb with hb; subst hb; exact ⟨hTc, ts, hTd⟩
  · intro b o hbo
    rw [other b fun q => by rw [q, hTb] at hbo; cases hbo]
    exact hst b o hbo

/-- raised here: the first entry -/
theorem note_first (hfr : A.frames = some (env :: outer)) (hl : s.heap.FunFrames base (env :: outer)) (hf : env.frame = some L) (he : s.heap.get? e = some (excObj C d a .none ctx)) (hst : base.StaysIn s.heap) (hen : base.get? e = none)
    (h : ∀ h' tb', h'.get? e = some (excObj C d a tb' ctx) → Fly base h' e tb' (rawInt L) → Kept ((env :: outer).filterMap (·.frame)) [e] s.heap h' → base.StaysIn h' → Q () { s with heap := h' }) :
    wpAny M A (noteFrame (.ref e) env) Q E s := by
  unfold noteFrame
  simp only [hf]
  refine wpAny_bind (wpAny_field he rfl (x := .none) rfl ?_)
  rw [if_neg (by decide)]
  exact entry_laid hfr hl hf he hst hen h

/-- it has been noted in this frame -/
theorem note_again (hf : env.frame = some L) (he : s.heap.get? e = some (excObj C d a tb ctx)) (hF : Fly base s.heap e tb (rawInt L)) (h : Q () s) : wpAny M A (noteFrame (.ref e) env) Q E s := by
  obtain ⟨T, oT, ts, rfl, hTe, hTb, hT, hTc, hTd, h3⟩ := hF
  unfold noteFrame
  simp only [hf]
  refine wpAny_bind (wpAny_field he rfl (x := .ref T) rfl ?_)
  rw [if_pos (show (Value.ref T != Value.none) = true from by simp)]
  refine wpAny_bind (wpAny_field hT hTd h3 ?_)
  rw [if_pos (show (rawInt L == rawInt L) = true from by simp)]
  exact wpAny_pure h

/-- it comes out of a callee -/
theorem note_next (hfr : A.frames = some (env :: outer)) (hl : s.heap.FunFrames base (env :: outer)) (hf : env.frame = some L) (he : s.heap.get? e = some (excObj C d a tb ctx)) (hF : Fly base s.heap e tb .none) (hst : base.StaysIn s.heap) (hen : base.get? e = none)
    (h : ∀ h' tb', h'.get? e = some (excObj C d a tb' ctx) → Fly base h' e tb' (rawInt L) → Kept ((env :: outer).filterMap (·.frame)) [e] s.heap h' → base.StaysIn h' → Q () { s with heap := h' }) :
    wpAny M A (noteFrame (.ref e) env) Q E s := by
  obtain ⟨T, oT, ts, rfl, hTe, hTb, hT, hTc, hTd, h3⟩ := hF
  have hsz3 : 3 < ts.size := (Array.getElem?_eq_some_iff.mp h3).1
  unfold noteFrame
  simp only [hf]
  refine wpAny_bind (wpAny_field he rfl (x := .ref T) rfl ?_)
  rw [if_pos (show (Value.ref T != Value.none) = true from by simp)]
  refine wpAny_bind (wpAny_field hT hTd h3 ?_)
  rw [if_neg (show ¬ ((Value.none == rawInt L) = true) from by simp [rawInt])]
  refine wpAny_bind (wpAny_setField hT hTd hsz3 ?_)
  have other : ∀ b, b ≠ T → (s.heap.update T (Obj.mapFields (·.setIfInBounds 3 Value.none))).get? b = s.heap.get? b := fun b hb => Heap.get?_update_other _ _ (Ne.symm hb)
  have notT : ∀ b o, s.heap.get? b = some o → ¬ isTb o → b ≠ T := fun b o hb hnt q => hnt (by rw [q, hT] at hb; injection hb with hb; subst hb; exact ⟨hTc, ts, hTd⟩)
  have kp : Kept ((env :: outer).filterMap (·.frame)) [e] s.heap (s.heap.update T (Obj.mapFields (·.setIfInBounds 3 Value.none))) := fun b o hb _ hnt => ⟨o.slots, (other b (notT b o hb hnt)).trans hb, fun _ => rfl⟩
  have ff : (s.heap.update T (Obj.mapFields (·.setIfInBounds 3 Value.none))).FunFrames base (env :: outer) := hl.of_keeps fun b o hb hnf => ⟨o, (other b (notT b o hb fun q => by obtain ⟨_, vs, hv⟩ := q; exact hnf vs hv)).trans hb, rfl⟩
  refine entry_laid (s := { s with heap := _ }) hfr ff hf ((other e (Ne.symm hTe)).trans he) (fun b o hbo => (other b fun q => by rw [q, hTb] at hbo; cases hbo).trans (hst b o hbo)) hen fun h' tb' h1 h2 h3 h4 => h h' tb' h1 h2 (kp.trans h3) h4

/-- it leaves the frame that raised it -/
theorem leave_first (hfr : A.frames = some (env :: outer)) (hl : s.heap.FunFrames base (env :: outer)) (hf : env.frame = some L) (he : s.heap.get? e = some (excObj C d a .none ctx)) (hst : base.StaysIn s.heap) (hen : base.get? e = none)
    (h : ∀ h' tb', h'.get? e = some (excObj C d a tb' ctx) → Fly base h' e tb' .none → Kept ((env :: outer).filterMap (·.frame)) [e] s.heap h' → base.StaysIn h' → Q () { s with heap := h' }) :
    wpAny M A (leaving env (.ref e)) Q E s := by
  unfold leaving
  refine wpAny_bind (note_first hfr hl hf he hst hen fun h₁ tb₁ h1 h2 h3 h4 => ?_)
  exact flight_set (s := { s with heap := h₁ }) (fr := none) h1 h2 h4 _ fun h' k1 k2 k3 k4 => h h' tb₁ k1 k2 (h3.trans k3) k4
/-- it leaves a frame that it was noted in -/
theorem leave_again (hf : env.frame = some L) (he : s.heap.get? e = some (excObj C d a tb ctx)) (hF : Fly base s.heap e tb (rawInt L)) (hst : base.StaysIn s.heap) (fs : List Addr)
    (h : ∀ h', h'.get? e = some (excObj C d a tb ctx) → Fly base h' e tb .none → Kept fs [e] s.heap h' → base.StaysIn h' → Q () { s with heap := h' }) :
    wpAny M A (leaving env (.ref e)) Q E s := by
  unfold leaving
  refine wpAny_bind (note_again hf he hF ?_)
  exact flight_set (fr := none) he hF hst fs h
/-- it leaves a frame further out -/
theorem leave_next (hfr : A.frames = some (env :: outer)) (hl : s.heap.FunFrames base (env :: outer)) (hf : env.frame = some L) (he : s.heap.get? e = some (excObj C d a tb ctx)) (hF : Fly base s.heap e tb .none) (hst : base.StaysIn s.heap) (hen : base.get? e = none)
    (h : ∀ h' tb', h'.get? e = some (excObj C d a tb' ctx) → Fly base h' e tb' .none → Kept ((env :: outer).filterMap (·.frame)) [e] s.heap h' → base.StaysIn h' → Q () { s with heap := h' }) :
    wpAny M A (leaving env (.ref e)) Q E s := by
  unfold leaving
  refine wpAny_bind (note_next hfr hl hf he hF hst hen fun h₁ tb₁ h1 h2 h3 h4 => ?_)
  exact flight_set (s := { s with heap := h₁ }) (fr := none) h1 h2 h4 _ fun h' k1 k2 k3 k4 => h h' tb₁ k1 k2 (h3.trans k3) k4
end
end Mine

end
section -- ExcI
set_option maxRecDepth 100000
set_option maxHeartbeats 4000000
set_option linter.unusedSimpArgs false
set_option linter.unusedVariables false
namespace Mine
open PySem PySem.W PySem.Calls PyProof.Rows PySem.Builtin

/-- the contexts behind an exception -/
inductive Ctxs (h : Heap) : Addr → List Addr → Prop
  | last {a C : Addr} {d : Option Addr} {ar tb : Value} : h.get? a = some (excObj C d ar tb .none) → Ctxs h a []
  | step {a b C : Addr} {d : Option Addr} {ar tb : Value} {r : List Addr} : h.get? a = some (excObj C d ar tb (.ref b)) → Ctxs h b r → Ctxs h a (b :: r)
theorem Ctxs.mem {h : Heap} {a : Addr} {r : List Addr} (x : Ctxs h a r) : ∀ b ∈ a :: r, ∃ o, h.get? b = some o := by
  induction x with
  | last he => intro b hb; simp only [List.mem_singleton] at hb; subst hb; exact ⟨_, he⟩
  | step he _ ih => intro b hb; rcases List.mem_cons.mp hb with rfl | hb; exact ⟨_, he⟩; exact ih b hb
theorem Ctxs.keeps {h h' : Heap} {a : Addr} {r : List Addr} (x : Ctxs h a r) (k : ∀ b ∈ a :: r, ∀ o, h.get? b = some o → h'.get? b = some o) : Ctxs h' a r := by
  induction x with
  | last he => exact .last (k _ (.head _) _ he)
  | step he _ ih => exact .step (k _ (.head _) _ he) (ih fun b hb o e => k b (.tail _ hb) o e)
theorem Ctxs.tb {h h' : Heap} {a C : Addr} {d : Option Addr} {ar tb tb' c : Value} {r : List Addr} (x : Ctxs h a r) (he : h.get? a = some (excObj C d ar tb c)) (he' : h'.get? a = some (excObj C d ar tb' c)) (k : ∀ b ∈ r, ∀ o, h.get? b = some o → h'.get? b = some o) : Ctxs h' a r := by
  cases x with
  | last h1 => rw [h1] at he; injection he with he; injection he with e1 e2 e3 e4; injection e3 with e3; have := congrArg (·[2]?) e3; simp at this; subst this; exact .last he'
  | step h1 h2 =>
    rw [h1] at he; injection he with he; injection he with e1 e2 e3 e4; injection e3 with e3; have := congrArg (·[2]?) e3; simp at this; subst this
    exact .step he' (h2.keeps k)
/-- what is next lies behind -/
theorem Ctxs.next {h : Heap} {a o c : Addr} {r : List Addr} (x : Ctxs h a r) (ho : o ∈ a :: r) {C : Addr} {d : Option Addr} {ar tb : Value} (he : h.get? o = some (excObj C d ar tb (.ref c))) : c ∈ r := by
  induction x with
  | last h1 =>
    simp only [List.mem_singleton] at ho
    subst ho
    rw [h1] at he; injection he with he; injection he with e1 e2 e3 e4; injection e3 with e3; have := congrArg (·[2]?) e3; simp at this
  | step h1 h2 ih =>
    rcases List.mem_cons.mp ho with rfl | ho
    · rw [h1] at he; injection he with he; injection he with e1 e2 e3 e4; injection e3 with e3; have := congrArg (·[2]?) e3; simp at this; subst this; exact .head _
    · exact .tail _ (ih ho)

theorem entry_unchain : entryFor table "proto.unchain" = some Builtin.«proto.unchain» := entryFor_of_tree (by kernel_rfl)
theorem unchain_quiet (args : Args) : (Code.builtin "proto.unchain" args).quiet = true := Code.quiet_builtin _ (by decide +kernel)

section
variable {prog : Program} {w : World} {A : Around} {E : Value → Shared → Prop} {s : Shared} {R : Result → Shared → Prop}
theorem unchain {e : Addr} {rem : List Addr} : ∀ {o slow : Addr} {remS : List Addr} {b : Bool}, Ctxs s.heap o rem → Ctxs s.heap slow remS → (slow :: remS).Nodup → e ∉ slow :: remS → o ∈ slow :: remS → R (.ok (.ret .none)) s →
    codeAny (model prog w) A (.builtin "proto.unchain" ⟨[.ref e, .ref o, .ref slow, .bool b], []⟩) R s := by
  induction rem with
  | nil =>
    intro o slow remS b x _ _ _ _ hR
    cases x with
    | last he =>
      refine codeAny_builtin entry_unchain ?_
      unfold Builtin.«proto.unchain»
      refine wpAny_bind (wpAny_field he rfl (x := .none) rfl ?_)
      rw [if_pos (by decide)]
      exact wpAny_pure hR
  | cons c rem ih =>
    intro o slow remS b x y nd ne ho hR
    cases x with
    | step he hx =>
      have hc := y.next ho he
      refine codeAny_builtin entry_unchain ?_
      unfold Builtin.«proto.unchain»
      refine wpAny_bind (wpAny_field he rfl (x := .ref c) rfl ?_)
      have n1 : c ≠ e := fun q => ne (by rw [← q]; exact .tail _ hc)
      have n2 : c ≠ slow := fun q => (List.nodup_cons.mp nd).1 (by rw [← q]; exact hc)
      rw [if_neg (by simp), if_neg (by simp [n1]), if_neg (by simp [n2])]
      cases b with
      | false =>
        refine wpAny_bind (wpAny_pure (wpAny_pure ⟨unchain_quiet _, ?_⟩))
        exact ih hx y nd ne (.tail _ hc) hR
      | true =>
        cases y with
        | last h1 => exact absurd hc (List.not_mem_nil)
        | step h1 h2 =>
          rename_i f r' _ _ _ _
          refine wpAny_bind (wpAny_field h1 rfl (x := .ref f) rfl (wpAny_pure ⟨unchain_quiet _, ?_⟩))
          exact ih hx h2 (List.nodup_cons.mp nd).2 (fun q => ne (.tail _ q)) hc hR

theorem raise_none {env : Env} {x : Sem Value} {Q : Flow → Shared → Prop} (hA : A.handled = none)
    (hx : wpAny (model prog w) A x (fun v s' => ∃ e C d a, v = .ref e ∧ s'.heap.get? e = some (excObj C d a .none .none) ∧ ECls (model prog w) s'.heap C ∧ E (.ref e) s') E s) :
    wpAny (model prog w) A (raiseStmt env (some x) none) Q E s := by
  unfold raiseStmt
  refine wpAny_bind (wpAny_mono hx (fun v s' h => ?_) fun _ _ h => h)
  obtain ⟨e, C, d, a, rfl, he, Y, hE⟩ := h
  obtain ⟨hh, g, dd, t, os⟩ := s'
  have t1 : Looks (model prog w) hh (typeOf (.ref e)) (.ref C) := (Looks.ld he).andThen .now
  have b1 := Y.bexc
  obtain ⟨⟨od, cd, sl, hC, e1, e2, e4, e5⟩, -⟩ := Y
  unfold excFromValue isExcClass isInstance raisedInstance setFlight
  repeat (first | with_reducible refine wpAny_field he rfl (x := .none) rfl ?_ | simp only [Bool.not_true, Bool.false_eq_true, if_false, if_true, bne_self_eq_false] | lk)
  show wpAny _ _ handled _ _ _
  refine wpAny_handled ?_
  rw [hA]
  exact wpAny_throw hE

/-- raised while another one is handled -/
theorem raise_some {env : Env} {x : Sem Value} {Q : Flow → Shared → Prop} {p : Addr} (hA : A.handled = some (.ref p))
    (hx : wpAny (model prog w) A x (fun v s' => ∃ e C d a r, v = .ref e ∧ s'.heap.get? e = some (excObj C d a .none .none) ∧ ECls (model prog w) s'.heap C ∧ Ctxs s'.heap p r ∧ (p :: r).Nodup ∧ e ∉ p :: r ∧
      E (.ref e) { s' with heap := s'.heap.update e (Obj.mapFields (·.setIfInBounds 2 (.ref p))) }) E s) :
    wpAny (model prog w) A (raiseStmt env (some x) none) Q E s := by
  unfold raiseStmt
  refine wpAny_bind (wpAny_mono hx (fun v s' h => ?_) fun _ _ h => h)
  obtain ⟨e, C, d, a, r, rfl, he, Y, hc, nd, ne, hE⟩ := h
  obtain ⟨hh, g, dd, t, os⟩ := s'
  have t1 : Looks (model prog w) hh (typeOf (.ref e)) (.ref C) := (Looks.ld he).andThen .now
  have b1 := Y.bexc
  obtain ⟨⟨od, cd, sl, hC, e1, e2, e4, e5⟩, -⟩ := Y
  have n1 : p ≠ e := fun q => ne (by rw [← q]; exact .head _)
  unfold excFromValue isExcClass isInstance raisedInstance setFlight
  repeat (first | with_reducible refine wpAny_field he rfl (x := .none) rfl ?_ | simp only [Bool.not_true, Bool.false_eq_true, if_false, if_true, bne_self_eq_false] | lk)
  show wpAny _ _ handled _ _ _
  refine wpAny_handled ?_
  rw [hA]
  dsimp only
  rw [if_pos (by simp [n1])]
  refine wpAny_bind (wpAny_holding (wpAny_runValue (unchain hc hc nd ne (.head _) ?_)))
  refine wpAny_bind ?_
  show wpAny _ _ (setField (.ref e) 2 (.ref p)) _ _ _
  exact wpAny_setField he rfl (Nat.le_of_ble_eq_true rfl) (wpAny_throw hE)

theorem exec_raise {env : Env} {x : Expr} {pos : Pos} {Q : Flow → Shared → Prop}
    (h : ∀ t : Sem Value, (∀ s Q' E', wpAny (model prog w) A (eval x env) Q' E' s → wpAny (model prog w) A t Q' E' s) → wpAny (model prog w) A (raiseStmt env (some t) none) Q E s) :
    wpAny (model prog w) A (exec (.Raise (some x) none pos) env) Q E s := by
  rw [arm_exec_Raise]
  first
    | exact wpAny_bind (wpAny_standAt (h _ fun s Q' E' hx => wpAny_bind (wpAny_mono hx (fun v s₁ h₁ => wpAny_bind (wpAny_standAt (wpAny_pure h₁))) fun _ _ z => z)))
    | (simp only [evalOpt, Option.map]; exact wpAny_bind (wpAny_standAt (h _ fun s Q' E' hx => wpAny_bind (wpAny_mono hx (fun v s₁ h₁ => wpAny_bind (wpAny_standAt (wpAny_pure h₁))) fun _ _ z => z))))
end
end Mine

end
section -- ExcJ
set_option maxRecDepth 100000
set_option maxHeartbeats 4000000
set_option linter.unusedSimpArgs false
set_option linter.unusedVariables false
namespace Mine
open PySem PySem.W PySem.Calls PyProof.Rows PySem.Builtin

theorem Kept.same {fs X : List Addr} {h h' : Heap} {L : Addr} (x : Heap.SameBut L h h') (hL : L ∈ X) : Kept fs X h h' := fun b o e hx _ =>
  ⟨o.slots, (x.2 b fun q => hx (by rw [q]; exact hL)).trans e, fun _ => rfl⟩
theorem stays_same {base h h' : Heap} {L : Addr} (x : Heap.SameBut L h h') (k : base.StaysIn h) (hL : base.get? L = none) : base.StaysIn h' := fun b o e => (x.2 b fun q => by rw [q, hL] at e; cases e).trans (k b o e)

section
variable {prog : Program} {w : World} {A : Around} {E : Value → Shared → Prop} {s : Shared} {base : Heap} {K : Frag} {p : Program} {loose : List Str} {mg mb : Str → Option Value} {outer : List Env} {name : Str} {scope : Scope} {L a e C : Addr} {cd ar tb ctx c : Value} {d : Option Addr} {m : Str → Option Value} {x n : Str} {np pos : Pos} {Q : Flow → Shared → Prop}

/-- no clause takes it -/
theorem try_miss {nm : Option Str} {body : List Stmt} (hfr : A.frames = some (envOf name scope L a cd :: outer)) (hl : s.heap.FunFrames base (envOf name scope L a cd :: outer)) (he : s.heap.get? e = some (excObj C d ar tb ctx)) (hF : Fly base s.heap e tb .none) (hst : base.StaysIn s.heap) (hen : base.get? e = none)
    (hns : s.heap.Ns L m) (hLb : base.objs.size ≤ L) (X : K.In base) (T : TopRead p loose mg mb base) (hn : KtsName K x c) (hm : exmOne K (.ref C) c = some false) (hLe : L ≠ e)
    (h : ∀ h' tb', h'.get? e = some (excObj C d ar tb' ctx) → Fly base h' e tb' (rawInt L) → Kept ((envOf name scope L a cd :: outer).filterMap (·.frame)) [e] s.heap h' → base.StaysIn h' → E (.ref e) { s with heap := h' })
    (hk : scope.kind = .function := by rfl) (hx : (envOf name scope L a cd).kindOf x = some .globalImplicit := by rfl) (hd : (x == ("__debug__" : Str)) = false := by decide) :
    wpAny (model prog w) A (noteFrame (.ref e) (envOf name scope L a cd)) (fun _ s₂ => wpAny (model prog w) A (setFlight (.ref e) none) (fun _ s₃ => wpAny (model prog w) A (handleBy (.ref e) (envOf name scope L a cd) [.ExceptHandler (some (.Name x np)) nm body pos]) Q E s₃) E s₂) E s := by
  refine note_next hfr hl rfl he hF hst hen fun h₁ tb₁ a1 a2 a3 a4 => ?_
  refine flight_set (s := { s with heap := h₁ }) (fr := none) a1 a2 a4 ((envOf name scope L a cd :: outer).filterMap (·.frame)) fun h₂ b1 b2 b3 b4 => ?_
  have k2 := a3.trans b3
  have ns2 := k2.ns hns (by simp [hLe])
  have F2 : Fr base L h₂ m := ⟨ns2, b4, hLb⟩
  refine wpAny_handleBy_cons (codeAny_handlers_test (kts_name (s := { s with heap := h₂ }) hn F2 X T ?_ hk hx hd)) (by intro q; cases q)
  have t1 : Looks (model prog w) ({ s with heap := h₂ } : Shared).heap (typeOf (.ref e)) (.ref C) := (Looks.ld b1).andThen .now
  refine (exm_one (X.keeps b4) t1 hm).here ?_
  show wpAny _ _ (handleBy (.ref e) _ []) _ _ _
  refine wpAny_handleBy_nil ?_
  unfold PySem.passOn
  obtain ⟨T', oT, ts, rfl, hTe, hTb, hT, hTc, hTd, h3⟩ := b2
  refine wpAny_bind (wpAny_field b1 rfl (x := .ref T') rfl ?_)
  rw [if_neg (by simp)]
  refine wpAny_bind (flight_set (s := { s with heap := h₂ }) (fr := some L) b1 ⟨T', oT, ts, rfl, hTe, hTb, hT, hTc, hTd, h3⟩ b4 ((envOf name scope L a cd :: outer).filterMap (·.frame)) fun h₃ c1 c2 c3 c4 => ?_)
  exact wpAny_throw (h h₃ _ c1 c2 (k2.trans c3) c4)

/-- the clause takes it -/
theorem try_hit {b₀ : Stmt} {suite : List Stmt} (hfr : A.frames = some (envOf name scope L a cd :: outer)) (hl : s.heap.FunFrames base (envOf name scope L a cd :: outer)) (he : s.heap.get? e = some (excObj C d ar tb ctx)) (hF : Fly base s.heap e tb .none) (hst : base.StaysIn s.heap) (hen : base.get? e = none)
    (hns : s.heap.Ns L m) (hLb : base.objs.size ≤ L) (X : K.In base) (T : TopRead p loose mg mb base) (hn : KtsName K x c) (hm : exmOne K (.ref C) c = some true) (hLe : L ≠ e)
    (h : ∀ h' tb', h'.get? e = some (excObj C d ar tb' ctx) → Fly base h' e tb' .none → Kept ((envOf name scope L a cd :: outer).filterMap (·.frame)) [e, L] s.heap h' → base.StaysIn h' → h'.Ns L (fun y => if y = n then some (.ref e) else m y) →
      wpAny (model prog w) (A.mark (some (.ref e))) (execs (b₀ :: suite) (envOf name scope L a cd))
        (fun f s₄ => wpAny (model prog w) A (do bindName (envOf name scope L a cd) n .none; unbindBehindTheSuite (envOf name scope L a cd) n pos) (fun _ s₅ => Q f s₅) E s₄)
        (AsSuiteRaised (model prog w) (A.mark (some (.ref e))) (envOf name scope L a cd) n pos (notedBy (model prog w) (A.mark (some (.ref e))) (envOf name scope L a cd) (cameBackBy (model prog w) A (envOf name scope L a cd) E))) { s with heap := h', toks := s.toks + 1 })
    (hk : scope.kind = .function := by rfl) (hx : (envOf name scope L a cd).kindOf x = some .globalImplicit := by rfl) (hlo : (envOf name scope L a cd).kindOf n = some .local := by rfl) (hd : (x == ("__debug__" : Str)) = false := by decide) :
    wpAny (model prog w) A (noteFrame (.ref e) (envOf name scope L a cd)) (fun _ s₂ => wpAny (model prog w) A (setFlight (.ref e) none) (fun _ s₃ => wpAny (model prog w) A (handleBy (.ref e) (envOf name scope L a cd) [.ExceptHandler (some (.Name x np)) (some n) (b₀ :: suite) pos]) Q E s₃) E s₂) E s := by
  refine note_next hfr hl rfl he hF hst hen fun h₁ tb₁ a1 a2 a3 a4 => ?_
  refine flight_set (s := { s with heap := h₁ }) (fr := none) a1 a2 a4 ((envOf name scope L a cd :: outer).filterMap (·.frame)) fun h₂ b1 b2 b3 b4 => ?_
  have k2 := a3.trans b3
  have ns2 := k2.ns hns (by simp [hLe])
  have F2 : Fr base L h₂ m := ⟨ns2, b4, hLb⟩
  refine wpAny_handleBy_cons (codeAny_handlers_test (kts_name (s := { s with heap := h₂ }) hn F2 X T ?_ hk hx hd)) (by intro q; cases q)
  have t1 : Looks (model prog w) ({ s with heap := h₂ } : Shared).heap (typeOf (.ref e)) (.ref C) := (Looks.ld b1).andThen .now
  refine (exm_one (X.keeps b4) t1 hm).here ?_
  refine codeAny_handlers_suite_as ?_
  refine flight_set (s := { s with heap := h₂ }) (fr := none) b1 b2 b4 ((envOf name scope L a cd :: outer).filterMap (·.frame)) fun h₃ c1 c2 c3 c4 => ?_
  have k3 := k2.trans c3
  have ns3 := k3.ns hns (by simp [hLe])
  refine wpAny_storeName_local hlo ns3 (fun h₄ hn₄ hs₄ => ?_) (by show (scope.kind == .class || (scope.kind == .module && L != mainGlobals)) = false; rw [hk]; rfl)
  have hbL : base.get? L = none := Heap.get?_none_of_le hLb
  refine h h₄ tb₁ ((hs₄.2 e (Ne.symm hLe)).trans c1) ?_ ((k3.mono (fun _ q => q) (fun _ q => List.mem_cons.mpr (.inl (List.mem_singleton.mp q)))).trans (Kept.same hs₄ (by show L ∈ [e, L]; simp))) (stays_same hs₄ c4 hbL) hn₄
  obtain ⟨T', oT, ts, rfl, hTe, hTb, hT, hTc, hTd, h3⟩ := c2
  refine ⟨T', oT, ts, rfl, hTe, hTb, (hs₄.2 T' fun q => ?_).trans hT, hTc, hTd, h3⟩
  obtain ⟨o, es, ep, ho, hdd, _⟩ := ns3
  rw [q] at hT
  have : some o = some oT := ho.symm.trans hT
  injection this with this
  subst this
  rw [hdd] at hTd; cases hTd

/-- the suite raises another one -/
theorem try_reraise {q : Value} (hfr : A.frames = some (envOf name scope L a cd :: outer)) (hl : s.heap.FunFrames base (envOf name scope L a cd :: outer)) (he : s.heap.get? e = some (excObj C d ar tb ctx)) (hF : Fly base s.heap e tb .none) (hst : base.StaysIn s.heap) (hen : base.get? e = none)
    (hns : s.heap.Ns L m) (hLb : base.objs.size ≤ L) (hLe : L ≠ e)
    (h : ∀ h' tb' tk', h'.get? e = some (excObj C d ar tb' ctx) → Fly base h' e tb' (rawInt L) → Kept ((envOf name scope L a cd :: outer).filterMap (·.frame)) [e, L] s.heap h' → base.StaysIn h' → (∃ m', h'.Ns L m') → E (.ref e) { s with heap := h', toks := tk' })
    (hk : scope.kind = .function := by rfl) (hlo : (envOf name scope L a cd).kindOf n = some .local := by rfl) :
    AsSuiteRaised (model prog w) (A.mark (some q)) (envOf name scope L a cd) n pos (notedBy (model prog w) (A.mark (some q)) (envOf name scope L a cd) (cameBackBy (model prog w) A (envOf name scope L a cd) E)) (.ref e) s := by
  have hbL : base.get? L = none := Heap.get?_none_of_le hLb
  refine note_next (A := A.mark (some q)) hfr hl rfl he hF hst hen fun h₁ tb₁ a1 a2 a3 a4 => ?_
  have ns1 := a3.ns hns (by simp [hLe])
  refine wpAny_nameGoes hlo ns1 (by show (scope.kind == .class || (scope.kind == .module && L != mainGlobals)) = false; rw [hk]; rfl) fun h₂ m₂ hn₂ hs₂ => ?_
  have b1 : h₂.get? e = some (excObj C d ar tb₁ ctx) := (hs₂.2 e (Ne.symm hLe)).trans a1
  have b2 : Fly base h₂ e tb₁ (rawInt L) := by
    obtain ⟨T', oT, ts, rfl, hTe, hTb, hT, hTc, hTd, h3⟩ := a2
    refine ⟨T', oT, ts, rfl, hTe, hTb, (hs₂.2 T' fun q => ?_).trans hT, hTc, hTd, h3⟩
    obtain ⟨o, es, ep, ho, hdd, _⟩ := ns1
    rw [q] at hT
    have : some o = some oT := ho.symm.trans hT
    injection this with this
    subst this
    rw [hdd] at hTd; cases hTd
  have b3 : Kept ((envOf name scope L a cd :: outer).filterMap (·.frame)) [e, L] s.heap h₂ := (a3.mono (fun _ q => q) (fun _ q => List.mem_cons.mpr (.inl (List.mem_singleton.mp q)))).trans (Kept.same hs₂ (by show L ∈ [e, L]; simp))
  have b4 := stays_same hs₂ a4 hbL
  unfold PySem.passOn
  have c := b2
  obtain ⟨T', oT, ts, rfl, hTe, hTb, hT, hTc, hTd, h3⟩ := c
  refine wpAny_bind (wpAny_field b1 rfl (x := .ref T') rfl ?_)
  rw [if_neg (by simp)]
  refine wpAny_bind (flight_set (s := { s with heap := h₂, toks := _ }) (fr := some L) b1 b2 b4 ((envOf name scope L a cd :: outer).filterMap (·.frame)) fun h₃ c1 c2 c3 c4 => ?_)
  refine wpAny_throw ?_
  refine note_again (s := { s with heap := h₃, toks := _ }) rfl c1 c2 ?_
  refine wpAny_bind (wpAny_field c1 rfl (x := .ref T') rfl ?_)
  rw [if_neg (by simp)]
  refine flight_set (s := { s with heap := h₃, toks := _ }) (fr := some L) c1 c2 c4 ((envOf name scope L a cd :: outer).filterMap (·.frame)) fun h₄ d1 d2 d3 d4 => ?_
  have up : ∀ {h h' : Heap}, Kept ((envOf name scope L a cd :: outer).filterMap (·.frame)) [e] h h' → Kept ((envOf name scope L a cd :: outer).filterMap (·.frame)) [e, L] h h' := fun k => k.mono (fun _ q => q) (fun _ q => List.mem_cons.mpr (.inl (List.mem_singleton.mp q)))
  exact h h₄ _ _ d1 d2 ((b3.trans (up c3)).trans (up d3)) d4 ⟨m₂, (c3.trans d3).ns hn₂ (by simp [hLe])⟩
end
end Mine

end
section -- ExcK
set_option maxRecDepth 100000
namespace Mine
open PySem PySem.W PySem.Calls PyProof.Rows
theorem execs_one {prog : Program} {w : World} {A : Around} {E : Value → Shared → Prop} {s : Shared} {env : Env} {st : Stmt} {Q : Flow → Shared → Prop} (h : wpAny (model prog w) A (exec st env) Q E s) : wpAny (model prog w) A (execs [st] env) Q E s :=
  wpAny_execs_cons (wpAny_mono h (fun f _ q => match f, q with | .next, q => wpAny_execs_nil q | .brk, q => q | .cont, q => q | .ret _, q => q) fun _ _ e => e)
end Mine

end
section -- ExcN
open PySem PySem.W PyProof.Rows Mine PySem.Builtin PySem.Builtin.Str
set_option maxRecDepth 100000
set_option maxHeartbeats 400000
set_option linter.unusedVariables false
namespace Mine
theorem str_eq_mp {Q : Value → Shared → Prop} {a b : PySem.Str} (e : a = b) {t : Tok} {s : Shared} (h : Q (.str a t) s) : Q (.str b t) s := e ▸ h
theorem f20_fmt {prog : Program} {w : World} {A : Around} {E : Value → Shared → Prop} {s : Shared} {t u : Tok} {Q : Value → Shared → Prop}
   (h : ∀ t' k, Q (.str (PySem.Str.ofString " [line 20]") t') { s with toks := k }) :
   wpAny (model prog w) A (call (.builtin "str.format") [.str (PySem.Str.ofString " [line {0:2d}]") t, .int 20 u]) Q E s := by
  refine' KFm.call_k ?ka ?kb ?kc ?kd
  case ka => kfm_eq
  case kb => exact KFm.args_2 _ _
  case kc =>
    apply KPc.meets_of
    intro _ _ _ _ _ _ _
    unfold Builtin.«str.format»
    refine wpAny_bind (wpAny_of_eq (a := (_, _, _)) rfl ?_)
    refine wpAny_bind ?_
    unfold Builtin.Str.buildString
    refine wpAny_bind ?_
    rw [KPc.range_list]
    refine KFm.start ?_
    intro _ _
    refine KPc.turn ?_
    kpc_if
    kpc_check
    refine wpAny_bind (Mine.field_index0 (by rfl) ?_)
    refine wpAny_bind (wpAny_holding (wpAny_of_eq (a := _) rfl ?_))
    kpc_if
    refine wpAny_bind (wpAny_pure ?_)
    refine wpAny_bind (wpAny_holding (Mine.formatOf_2d (by decide +kernel) (fun t u => Mine.t20 t u) ?_))
    intro _ _
    refine wpAny_bind (wpAny_of_eq (a := some _) rfl ?_)
    refine wpAny_pure ?_
    refine KFm.after_field (by kpc_g) (by kpc_text) (by kpc_obj) (by kfm_len) (by kpc_obj) (by kfm_cat2) (by kfm_rest) ?_
    intro _ _
    refine KPc.turn ?_
    kpc_if
    kpc_check
    kfm_lit
    refine KPc.turn ?_
    kpc_if
    kfm_close
  case kd =>
    intro t' k
    refine str_eq_mp (a := PySem.Str.ofString " [line 20]") ?_ (h t' k)
    decide +kernel
end Mine

end
section -- ExcM
set_option maxRecDepth 100000
set_option maxHeartbeats 1000000
set_option linter.unusedVariables false
namespace Mine
open PySem PySem.W PySem.Calls PyProof.Rows

def NoRef (es : List DictEntry) : Prop := es.any (·.refKey) = false
theorem isStr_inj {v : Value} {a b : Str} (h1 : v.isStr a = true) (h2 : v.isStr b = true) : a = b := by
  cases v with
  | str x t => exact (eq_of_beq h1).symm.trans (eq_of_beq h2)
  | _ => cases h1
theorem isStr_self (a : Str) (t : Tok) : (Value.str a t).isStr a = true := beq_self_eq_true a
def fnd (y : Str) (es : List DictEntry) : Option Value := (es.find? (·.key.isStr y)).map (·.val)
theorem getL_fnd {y : Str} {es : List DictEntry} (h : NoRef es) : getL y es = some (fnd y es) := by
  unfold getL fnd
  cases es.find? (·.key.isStr y) with
  | none => show (if es.any (·.refKey) then none else some none) = _; rw [h]; rfl
  | some e => rfl
section
variable {name : Str} {hsh : Int} {tk : Tok} {v : Value}
theorem put_noRef : ∀ {es : List DictEntry}, NoRef es → NoRef (putL name hsh (.str name tk) v es)
  | [], _ => rfl
  | e :: r, h => by
    have h' : (e.refKey || r.any (·.refKey)) = false := h
    rw [Bool.or_eq_false_iff] at h'
    unfold putL
    split
    · show (DictEntry.refKey ⟨e.hash, e.key, v⟩ || r.any (·.refKey)) = false
      rw [h'.2, Bool.or_false]; exact h'.1
    · show (e.refKey || (putL name hsh (.str name tk) v r).any (·.refKey)) = false
      rw [h'.1, Bool.false_or]; exact put_noRef h'.2
theorem put_same : ∀ {es : List DictEntry}, fnd name (putL name hsh (.str name tk) v es) = some v
  | [] => by unfold putL fnd; rw [List.find?_cons, isStr_self]; rfl
  | e :: r => by
    unfold putL
    split
    · rename_i h; unfold fnd; rw [List.find?_cons]; show Option.map _ (match e.key.isStr name with | true => _ | false => _) = _; rw [h]; rfl
    · rename_i h; unfold fnd; rw [List.find?_cons, Bool.eq_false_iff.mpr h]; exact put_same
theorem put_other {y : Str} (hy : y ≠ name) : ∀ {es : List DictEntry}, fnd y (putL name hsh (.str name tk) v es) = fnd y es
  | [] => by
    unfold putL fnd; rw [List.find?_cons]
    have : (Value.str name tk).isStr y = false := Bool.eq_false_iff.mpr fun z => hy (isStr_inj z (isStr_self name tk))
    rw [this]
  | e :: r => by
    unfold putL
    split
    · rename_i h
      have : e.key.isStr y = false := Bool.eq_false_iff.mpr fun z => hy (isStr_inj z h)
      unfold fnd; rw [List.find?_cons, List.find?_cons]
      show Option.map _ (match e.key.isStr y with | true => _ | false => _) = _
      rw [this]
    · unfold fnd; rw [List.find?_cons, List.find?_cons]
      cases e.key.isStr y with
      | true => rfl
      | false => exact put_other hy
theorem put_len : ∀ {es : List DictEntry}, (putL name hsh (.str name tk) v es).length ≤ es.length + 1
  | [] => Nat.le_refl _
  | e :: r => by
    unfold putL
    split
    · exact Nat.le_succ _
    · exact Nat.succ_le_succ put_len
end

/-- what a class of ours must bear for its exceptions to be stored into -/
structure CC (K : Frag) (C : Addr) : Prop where
  sa : findIn K (.ref C) "__setattr__" = some (some (.builtin "object.__setattr__"))
  ov : excOver K C = true
  hd : hasDictIn K C = true
  ex : exIn K C = true
  ar : takerIn K C "args" = some (some (.builtin "BaseException.args"))
  ms : takerIn K C "message" = some none
  se : takerIn K C "section" = some none
  op : takerIn K C "option" = some none
  so : takerIn K C "source" = some none
  li : takerIn K C "lineno" = some none
  re : takerIn K C "reference" = some none
/-- the entries have one more, or another -/
structure Put (nm : Str) (v : Value) (es es' : List DictEntry) : Prop where
  nr : NoRef es'
  len : es'.length ≤ es.length + 1
  same : fnd nm es' = some v
  other : ∀ y, y ≠ nm → fnd y es' = fnd y es
section
variable {prog : Program} {w : World} {A : Around} {E : Value → Shared → Prop} {K : Frag} {C x d L a : Addr} {s : Shared} {h₀ : Heap} {m : Str → Option Value} {tl : List (Addr × Obj)} {v ar tb ctx cd : Value} {es : List DictEntry} {n : Nat} {name nm vn : Str} {scope : Scope} {Q : Flow → Shared → Prop} {rest : List Stmt} {p1 p2 p3 p4 : Pos}
/-- self.nm = vn -/
theorem st_attr (F : Fr h₀ L s.heap m) (X₀ : K.In h₀) (N : News h₀ L s.heap ((x, excObj C (some d) ar tb ctx) :: (d, dictOf es n) :: tl)) (off : ∀ p ∈ tl, p.1 ≠ d) (hxd : x ≠ d) (cc : CC K C) (nr : NoRef es) (hl : es.length ≤ 20)
    (hself : m "self" = some (.ref x)) (hv : m vn = some v) (ht : takerIn K C nm = some none)
    (h : ∀ h' es' n' tk', Fr h₀ L h' m → News h₀ L h' ((x, excObj C (some d) ar tb ctx) :: (d, dictOf es' n') :: tl) → Put nm v es es' → wpAny (model prog w) A (execs rest (envOf name scope L a cd)) Q E { s with heap := h', toks := tk' })
    (hk : scope.kind = .function) (k1 : (envOf name scope L a cd).kindOf "self" = some .local) (k2 : (envOf name scope L a cd).kindOf vn = some .local) (dv : (vn == ("__debug__" : Str)) = false)
    (hs : swapsWith (.Name vn p3) (some (.Attribute (.Name "self" p1) nm p2)) p4.line (envOf name scope L a cd) = pure false) :
    wpAny (model prog w) A (execs (.Assign [.Attribute (.Name "self" p1) nm p2] (.Name vn p3) p4 :: rest) (envOf name scope L a cd)) Q E s := by
  refine wpAny_execs_cons (plainObj_wpAny_Assign_Attribute (ld F hv (ld F hself ?_ hk k1 (by decide)) hk k2 dv) hs)
  refine set_exc F X₀ N (.head _) (.tail _ (.head _)) cc.sa cc.ov ht cc.hd ?_ rfl (.tail hxd (.head off)) ?_ fun h' F' N' => ?_
  · rw [getL_fnd nr]; rfl
  · exact Nat.le_trans put_len (by omega)
  · exact h h' _ _ _ F' N' ⟨put_noRef nr, put_len, put_same, fun y hy => put_other hy⟩
/-- names and their values -/
inductive NamesV (env : Env) (m : Str → Option Value) : List Expr → List Value → Prop
  | nil : NamesV env m [] []
  | cons {x : Str} {p : Pos} {v : Value} {es : List Expr} {vs : List Value} : m x = some v → env.kindOf x = some .local → (x == ("__debug__" : Str)) = false → NamesV env m es vs → NamesV env m (.Name x p :: es) (v :: vs)
theorem spl_names {pos : Pos} {cl : List (Str × Addr)} (F : Fr h₀ L s.heap m) (hk : scope.kind = .function) : ∀ {es : List Expr} {vs : List Value} {Q : List Value → Shared → Prop}, NamesV (envX name scope L a cd cl) m es vs → Q vs s → wpAny (model prog w) A (spliced (backTo pos (starEach es (envX name scope L a cd cl)))) Q E s
  | _, _, _, .nil, h => args_nil h
  | _, _, _, .cons h1 h2 h3 r, h => args_cons (nameX_L F h1 (spl_names F hk r h) hk h2 h3)
/-- self.args = (..) -/
theorem st_args {elts : List Expr} {vs : List Value} {k : Nat} {p0 : Pos} (F : Fr h₀ L s.heap m) (X₀ : K.In h₀) (N : News h₀ L s.heap ((x, excObj C (some d) ar tb ctx) :: (d, dictOf es n) :: tl)) (off : ∀ p ∈ tl, p.1 ≠ x) (hxd : x ≠ d) (cc : CC K C)
    (hself : m "self" = some (.ref x)) (hv : NamesV (envOf name scope L a cd) m elts vs) (hz : vs.length ≤ 20)
    (h : ∀ h' t tk', Fr h₀ L h' m → News h₀ L h' ((t, tupObj vs) :: (x, excObj C (some d) (.ref t) tb ctx) :: (d, dictOf es n) :: tl) → (∀ p ∈ (x, excObj C (some d) ar tb ctx) :: (d, dictOf es n) :: tl, p.1 < t) → wpAny (model prog w) A (execs rest (envOf name scope L a cd)) Q E { s with heap := h', toks := tk' })
    (hk : scope.kind = .function) (k1 : (envOf name scope L a cd).kindOf "self" = some .local)
    (hs : swapsWith (.Tuple elts k p0) (some (.Attribute (.Name "self" p1) "args" p2)) p4.line (envOf name scope L a cd) = pure false) :
    wpAny (model prog w) A (execs (.Assign [.Attribute (.Name "self" p1) "args" p2] (.Tuple elts k p0) p4 :: rest) (envOf name scope L a cd)) Q E s := by
  refine wpAny_execs_cons (plainObj_wpAny_Assign_Attribute (Tuple_ (spl_names (cl := []) F hk hv (kup_newTuple F N (fun t h' F' N' lt => ?_) (Nat.le_trans hz (by rw [sizeLine_eq]; decide))))) hs)
  refine ld F' hself ?_ hk k1 (by decide)
  have lx := lt _ (.head _)
  refine set_excArgs F' X₀ N' (inst_exc N' (.tail _ (.head _)) (.tail _ (.tail _ (.head _)))) cc.sa cc.ov cc.ex cc.ar (News.isTup N' (.head _)) (.tail (Nat.ne_of_gt lx) (.head fun p hp => (List.mem_cons.mp hp).elim (fun z => z ▸ Ne.symm hxd) (off p))) fun h2 F2 N2 => ?_
  exact h h2 t _ F2 N2 lt
end
end Mine

end
section -- H1
open PySem PySem.W PyProof.Rows
namespace Mine
set_option maxRecDepth 100000
set_option maxHeartbeats 8000000
set_option linter.unusedVariables false
noncomputable abbrev pE : PySem.Program := PySem.Challenge.rw_dv0002_01.row.toRowW.prog
noncomputable def sAt (i : Nat) : PySem.Stmt := pE.main.body.getD i (PySem.Stmt.Pass default)
noncomputable def sIn (i j : Nat) : PySem.Stmt := match sAt i with | .ClassDef _ _ _ b _ _ _ _ _ _ _ => b.getD j (PySem.Stmt.Pass default) | _ => PySem.Stmt.Pass default
noncomputable def fP (s : PySem.Stmt) : PySem.Arguments := match s with | .FunctionDef _ a _ _ _ _ _ _ _ _ => a | _ => default
noncomputable def fB (s : PySem.Stmt) : List PySem.Stmt := match s with | .FunctionDef _ _ b _ _ _ _ _ _ _ => b | _ => []
noncomputable def fQ (s : PySem.Stmt) : PySem.Pos := match s with | .FunctionDef _ _ _ _ _ _ _ _ _ p => p | _ => default
noncomputable def fS (s : PySem.Stmt) : PySem.Scope := match s with | .FunctionDef _ _ _ _ _ _ s _ _ _ => s | _ => default
noncomputable def hd.view_39 : PySem.Program := { pE with main := { pE.main with body := [sAt 1, sAt 2, sAt 3, sAt 4, sAt 5, sAt 7, sAt 8, sAt 9, sAt 10, sAt 11, sAt 12] } }
noncomputable def hd.heap_39 : (∀ (x : PySem.Params), PySem.W.Frag) := fun P => (fun (p1x0 : PySem.Arguments) (b1x0 : List PySem.Stmt) (s1x0 : PySem.Scope) (p1x1 : PySem.Arguments) (b1x1 : List PySem.Stmt) (s1x1 : PySem.Scope) (p2x0 : PySem.Arguments) (b2x0 : List PySem.Stmt) (s2x0 : PySem.Scope) (p3x0 : PySem.Arguments) (b3x0 : List PySem.Stmt) (s3x0 : PySem.Scope) (p4x0 : PySem.Arguments) (b4x0 : List PySem.Stmt) (s4x0 : PySem.Scope) (p5x0 : PySem.Arguments) (b5x0 : List PySem.Stmt) (s5x0 : PySem.Scope) (p7 : PySem.Arguments) (b7 : List PySem.Stmt) (s7 : PySem.Scope) (p8 : PySem.Arguments) (b8 : List PySem.Stmt) (s8 : PySem.Scope) (p9 : PySem.Arguments) (b9 : List PySem.Stmt) (s9 : PySem.Scope) (p10 : PySem.Arguments) (b10 : List PySem.Stmt) (s10 : PySem.Scope) (p11 : PySem.Arguments) (b11 : List PySem.Stmt) (s11 : PySem.Scope) (p12 : PySem.Arguments) (b12 : List PySem.Stmt) (s12 : PySem.Scope) (_ : fP (sIn 1 0) = p1x0) (_ : fB (sIn 1 0) = b1x0) (_ : fS (sIn 1 0) = s1x0) (_ : fP (sIn 1 1) = p1x1) (_ : fB (sIn 1 1) = b1x1) (_ : fS (sIn 1 1) = s1x1) (_ : fP (sIn 2 0) = p2x0) (_ : fB (sIn 2 0) = b2x0) (_ : fS (sIn 2 0) = s2x0) (_ : fP (sIn 3 0) = p3x0) (_ : fB (sIn 3 0) = b3x0) (_ : fS (sIn 3 0) = s3x0) (_ : fP (sIn 4 0) = p4x0) (_ : fB (sIn 4 0) = b4x0) (_ : fS (sIn 4 0) = s4x0) (_ : fP (sIn 5 0) = p5x0) (_ : fB (sIn 5 0) = b5x0) (_ : fS (sIn 5 0) = s5x0) (_ : fP (sAt 7) = p7) (_ : fB (sAt 7) = b7) (_ : fS (sAt 7) = s7) (_ : fP (sAt 8) = p8) (_ : fB (sAt 8) = b8) (_ : fS (sAt 8) = s8) (_ : fP (sAt 9) = p9) (_ : fB (sAt 9) = b9) (_ : fS (sAt 9) = s9) (_ : fP (sAt 10) = p10) (_ : fB (sAt 10) = b10) (_ : fS (sAt 10) = s10) (_ : fP (sAt 11) = p11) (_ : fB (sAt 11) = b11) (_ : fS (sAt 11) = s11) (_ : fP (sAt 12) = p12) (_ : fB (sAt 12) = b12) (_ : fS (sAt 12) = s12) =>
   ((nat_lit 2, (PySem.Obj.mk PySem.Value.none (Option.none) (PySem.Data.dict #[(PySem.DictEntry.mk (PySem.PyData.keyHash P (PySem.Str.ofString "type.__subclasses__.Exception.0")) (PySem.Value.str (PySem.Str.ofString "type.__subclasses__.Exception.0") 223) (PySem.Value.int (39 : Int) 0)), (PySem.DictEntry.mk (PySem.PyData.keyHash P (PySem.Str.ofString "type.__subclasses__.Exception.n")) (PySem.Value.str (PySem.Str.ofString "type.__subclasses__.Exception.n") 224) (PySem.Value.int (1 : Int) 0))] 2) #[])) ::
    (nat_lit 3, (PySem.Obj.mk (PySem.Value.type "dict") (Option.none) (PySem.Data.dict #[(PySem.DictEntry.mk (PySem.PyData.keyHash P (PySem.Str.ofString "__name__")) (PySem.Value.str (PySem.Str.ofString "__name__") 165) (PySem.Value.str (PySem.Str.ofString "law_dv0002_01") 347)), (PySem.DictEntry.mk (PySem.PyData.keyHash P (PySem.Str.ofString "__doc__")) (PySem.Value.str (PySem.Str.ofString "__doc__") 166) PySem.Value.none), (PySem.DictEntry.mk (PySem.PyData.keyHash P (PySem.Str.ofString "__package__")) (PySem.Value.str (PySem.Str.ofString "__package__") 167) PySem.Value.none), (PySem.DictEntry.mk (PySem.PyData.keyHash P (PySem.Str.ofString "__loader__")) (PySem.Value.str (PySem.Str.ofString "__loader__") 168) (PySem.Value.builtin "__main__.__loader__#opaque")), (PySem.DictEntry.mk (PySem.PyData.keyHash P (PySem.Str.ofString "__spec__")) (PySem.Value.str (PySem.Str.ofString "__spec__") 169) PySem.Value.none), (PySem.DictEntry.mk (PySem.PyData.keyHash P (PySem.Str.ofString "__annotations__")) (PySem.Value.str (PySem.Str.ofString "__annotations__") 170) (PySem.Value.ref 6)), (PySem.DictEntry.mk (PySem.PyData.keyHash P (PySem.Str.ofString "__builtins__")) (PySem.Value.str (PySem.Str.ofString "__builtins__") 171) (PySem.Value.ref 4)), (PySem.DictEntry.mk (PySem.PyData.keyHash P (PySem.Str.ofString "__file__")) (PySem.Value.str (PySem.Str.ofString "__file__") 173) (PySem.Value.str (PySem.Str.ofString "/claim/cut.py") 172)), (PySem.DictEntry.mk (PySem.PyData.keyHash P (PySem.Str.ofString "__cached__")) (PySem.Value.str (PySem.Str.ofString "__cached__") 174) PySem.Value.none), (PySem.DictEntry.mk (PySem.PyData.keyHash P (PySem.Str.ofString "Error")) (PySem.Value.str (PySem.Str.ofString "Error") 226) (PySem.Value.ref 39)), (PySem.DictEntry.mk (PySem.PyData.keyHash P (PySem.Str.ofString "NoSectionError")) (PySem.Value.str (PySem.Str.ofString "NoSectionError") 252) (PySem.Value.ref 59)), (PySem.DictEntry.mk (PySem.PyData.keyHash P (PySem.Str.ofString "DuplicateSectionError")) (PySem.Value.str (PySem.Str.ofString "DuplicateSectionError") 284) (PySem.Value.ref 79)), (PySem.DictEntry.mk (PySem.PyData.keyHash P (PySem.Str.ofString "DuplicateOptionError")) (PySem.Value.str (PySem.Str.ofString "DuplicateOptionError") 318) (PySem.Value.ref 99)), (PySem.DictEntry.mk (PySem.PyData.keyHash P (PySem.Str.ofString "NoOptionError")) (PySem.Value.str (PySem.Str.ofString "NoOptionError") 346) (PySem.Value.ref 118)), (PySem.DictEntry.mk (PySem.PyData.keyHash P (PySem.Str.ofString "_law_read")) (PySem.Value.str (PySem.Str.ofString "_law_read") 361) (PySem.Value.ref 127)), (PySem.DictEntry.mk (PySem.PyData.keyHash P (PySem.Str.ofString "_law_place")) (PySem.Value.str (PySem.Str.ofString "_law_place") 369) (PySem.Value.ref 134)), (PySem.DictEntry.mk (PySem.PyData.keyHash P (PySem.Str.ofString "_law_fault")) (PySem.Value.str (PySem.Str.ofString "_law_fault") 375) (PySem.Value.ref 139)), (PySem.DictEntry.mk (PySem.PyData.keyHash P (PySem.Str.ofString "_law_quoted")) (PySem.Value.str (PySem.Str.ofString "_law_quoted") 382) (PySem.Value.ref 146)), (PySem.DictEntry.mk (PySem.PyData.keyHash P (PySem.Str.ofString "_law_due")) (PySem.Value.str (PySem.Str.ofString "_law_due") 401) (PySem.Value.ref 153)), (PySem.DictEntry.mk (PySem.PyData.keyHash P (PySem.Str.ofString "law")) (PySem.Value.str (PySem.Str.ofString "law") 418) (PySem.Value.ref 160))] 20) #[])) ::
    (nat_lit 6, (PySem.Obj.mk (PySem.Value.type "dict") (Option.none) (PySem.Data.dict #[] 0) #[])) ::
    (nat_lit 15, (PySem.Obj.mk (PySem.Value.type "tuple") (Option.none) (PySem.Data.seq #[(PySem.Value.type "Exception")] 0) #[])) ::
    (nat_lit 22, (PySem.Obj.mk (PySem.Value.type "tuple") (Option.none) (PySem.Data.seq #[(PySem.Value.str (PySem.Str.ofString "") 201)] 0) #[])) ::
    (nat_lit 23, (PySem.Obj.mk (PySem.Value.type "tuple") (Option.none) (PySem.Data.seq #[] 0) #[])) ::
    (nat_lit 25, (PySem.Obj.mk (PySem.Value.type "tuple") (Option.none) (PySem.Data.seq #[(PySem.Value.str (PySem.Str.ofString "self") 205), (PySem.Value.str (PySem.Str.ofString "msg") 206)] 0) #[])) ::
    (nat_lit 26, (PySem.Obj.mk (PySem.Value.type "tuple") (Option.none) (PySem.Data.seq #[] 0) #[])) ::
    (nat_lit 28, (PySem.Obj.mk (PySem.Value.type "code") (Option.none) (PySem.Data.fields #[(PySem.Value.str (PySem.Str.ofString "__init__") 202), (PySem.Value.str (PySem.Str.ofString "Error.__init__") 203), (PySem.Value.str (PySem.Str.ofString "/claim/cut.py") 204), (PySem.Value.int (4 : Int) 0), (PySem.Value.int (2 : Int) 0), (PySem.Value.int (0 : Int) 0), (PySem.Value.int (0 : Int) 0), (PySem.Value.int (3 : Int) 0), (PySem.Value.ref 23), (PySem.Value.bool Bool.true), (PySem.Value.int (181 : Int) 0), (PySem.Value.ref 24), PySem.Value.none, (PySem.Value.ref 25), (PySem.Value.ref 26), (PySem.Value.ref 27), (PySem.Value.int (207 : Int) 0), (PySem.Value.int (4 : Int) 0), (PySem.Value.str (PySem.Str.ofString "/claim/cut.py") 208)]) #[])) ::
    (nat_lit 29, (PySem.Obj.mk (PySem.Value.type "function") (Option.none) (PySem.Data.func (PySem.FuncData.mk (PySem.Str.ofString "__init__") (PySem.Str.ofString "Error.__init__") p1x0 (PySem.FuncBody.stmts b1x0) s1x0 3 ([] : List (Prod PySem.Str Nat)) (PySem.Value.ref 22) PySem.Value.none PySem.Value.none (PySem.Value.str (PySem.Str.ofString "cpy313.configparser") 187) (Option.none) (PySem.Value.ref 28) PySem.Value.none 0)) #[])) ::
    (nat_lit 30, (PySem.Obj.mk (PySem.Value.type "tuple") (Option.none) (PySem.Data.seq #[] 0) #[])) ::
    (nat_lit 32, (PySem.Obj.mk (PySem.Value.type "tuple") (Option.none) (PySem.Data.seq #[(PySem.Value.str (PySem.Str.ofString "self") 213)] 0) #[])) ::
    (nat_lit 33, (PySem.Obj.mk (PySem.Value.type "tuple") (Option.none) (PySem.Data.seq #[] 0) #[])) ::
    (nat_lit 35, (PySem.Obj.mk (PySem.Value.type "code") (Option.none) (PySem.Data.fields #[(PySem.Value.str (PySem.Str.ofString "__repr__") 210), (PySem.Value.str (PySem.Str.ofString "Error.__repr__") 211), (PySem.Value.str (PySem.Str.ofString "/claim/cut.py") 212), (PySem.Value.int (8 : Int) 0), (PySem.Value.int (1 : Int) 0), (PySem.Value.int (0 : Int) 0), (PySem.Value.int (0 : Int) 0), (PySem.Value.int (3 : Int) 0), (PySem.Value.ref 30), (PySem.Value.bool Bool.true), (PySem.Value.int (181 : Int) 0), (PySem.Value.ref 31), PySem.Value.none, (PySem.Value.ref 32), (PySem.Value.ref 33), (PySem.Value.ref 34), (PySem.Value.int (214 : Int) 0), (PySem.Value.int (8 : Int) 0), (PySem.Value.str (PySem.Str.ofString "/claim/cut.py") 215)]) #[])) ::
    (nat_lit 36, (PySem.Obj.mk (PySem.Value.type "function") (Option.none) (PySem.Data.func (PySem.FuncData.mk (PySem.Str.ofString "__repr__") (PySem.Str.ofString "Error.__repr__") p1x1 (PySem.FuncBody.stmts b1x1) s1x1 3 ([] : List (Prod PySem.Str Nat)) PySem.Value.none PySem.Value.none PySem.Value.none (PySem.Value.str (PySem.Str.ofString "cpy313.configparser") 187) (Option.none) (PySem.Value.ref 35) PySem.Value.none 0)) #[])) ::
    (nat_lit 37, (PySem.Obj.mk (PySem.Value.type "tuple") (Option.none) (PySem.Data.seq #[(PySem.Value.str (PySem.Str.ofString "message") 218)] 0) #[])) ::
    (nat_lit 38, (PySem.Obj.mk (PySem.Value.type "dict") (Option.none) (PySem.Data.dict #[(PySem.DictEntry.mk (PySem.PyData.keyHash P (PySem.Str.ofString "__module__")) (PySem.Value.str (PySem.Str.ofString "__module__") 196) (PySem.Value.str (PySem.Str.ofString "cpy313.configparser") 187)), (PySem.DictEntry.mk (PySem.PyData.keyHash P (PySem.Str.ofString "__firstlineno__")) (PySem.Value.str (PySem.Str.ofString "__firstlineno__") 200) (PySem.Value.int (2 : Int) 199)), (PySem.DictEntry.mk (PySem.PyData.keyHash P (PySem.Str.ofString "__init__")) (PySem.Value.str (PySem.Str.ofString "__init__") 209) (PySem.Value.ref 29)), (PySem.DictEntry.mk (PySem.PyData.keyHash P (PySem.Str.ofString "__repr__")) (PySem.Value.str (PySem.Str.ofString "__repr__") 216) (PySem.Value.ref 36)), (PySem.DictEntry.mk (PySem.PyData.keyHash P (PySem.Str.ofString "__str__")) (PySem.Value.str (PySem.Str.ofString "__str__") 217) (PySem.Value.ref 36)), (PySem.DictEntry.mk (PySem.PyData.keyHash P (PySem.Str.ofString "__static_attributes__")) (PySem.Value.str (PySem.Str.ofString "__static_attributes__") 219) (PySem.Value.ref 37)), (PySem.DictEntry.mk (PySem.PyData.keyHash P (PySem.Str.ofString "__weakref__")) (PySem.Value.str (PySem.Str.ofString "__weakref__") 221) (PySem.Value.ref 40)), (PySem.DictEntry.mk (PySem.PyData.keyHash P (PySem.Str.ofString "__doc__")) (PySem.Value.str (PySem.Str.ofString "__doc__") 222) PySem.Value.none)] 3) #[])) ::
    (nat_lit 39, (PySem.Obj.mk (PySem.Value.type "type") (Option.none) (PySem.Data.cls (PySem.ClassData.mk (PySem.Str.ofString "Error") [(PySem.Value.type "Exception")] [(PySem.Value.ref 39), (PySem.Value.type "Exception"), (PySem.Value.type "BaseException"), (PySem.Value.type "object")] 38 (PySem.Str.ofString "Error") Bool.true ([] : List PySem.Str) [(PySem.Value.ref 59), (PySem.Value.ref 79), (PySem.Value.ref 99), (PySem.Value.ref 118)] Bool.false (Option.none) Bool.false)) #[(Option.some (PySem.Value.ref 15)), (Option.none), (Option.some (PySem.Value.str (PySem.Str.ofString "Error") 189)), (Option.some (PySem.Value.str (PySem.Str.ofString "Error") 197)), (Option.some (PySem.Value.builtin "Exception.__new__")), (Option.some (PySem.Value.bool Bool.true))])) ::
    (nat_lit 40, (PySem.Obj.mk (PySem.Value.type "getset_descriptor") (Option.none) (PySem.Data.fields #[(PySem.Value.str (PySem.Str.ofString "__weakref__") 220), (PySem.Value.ref 39), (PySem.Value.builtin "ExceptionGroup.__weakref__"), PySem.Value.none]) #[])) ::
    (nat_lit 43, (PySem.Obj.mk (PySem.Value.type "tuple") (Option.none) (PySem.Data.seq #[(PySem.Value.ref 39)] 0) #[])) ::
    (nat_lit 50, (PySem.Obj.mk (PySem.Value.type "tuple") (Option.none) (PySem.Data.seq #[] 0) #[])) ::
    (nat_lit 52, (PySem.Obj.mk (PySem.Value.type "tuple") (Option.none) (PySem.Data.seq #[(PySem.Value.str (PySem.Str.ofString "self") 242), (PySem.Value.str (PySem.Str.ofString "section") 243)] 0) #[])) ::
    (nat_lit 53, (PySem.Obj.mk (PySem.Value.type "tuple") (Option.none) (PySem.Data.seq #[] 0) #[])) ::
    (nat_lit 55, (PySem.Obj.mk (PySem.Value.type "code") (Option.none) (PySem.Data.fields #[(PySem.Value.str (PySem.Str.ofString "__init__") 239), (PySem.Value.str (PySem.Str.ofString "NoSectionError.__init__") 240), (PySem.Value.str (PySem.Str.ofString "/claim/cut.py") 241), (PySem.Value.int (13 : Int) 0), (PySem.Value.int (2 : Int) 0), (PySem.Value.int (0 : Int) 0), (PySem.Value.int (0 : Int) 0), (PySem.Value.int (3 : Int) 0), (PySem.Value.ref 50), (PySem.Value.bool Bool.true), (PySem.Value.int (181 : Int) 0), (PySem.Value.ref 51), PySem.Value.none, (PySem.Value.ref 52), (PySem.Value.ref 53), (PySem.Value.ref 54), (PySem.Value.int (244 : Int) 0), (PySem.Value.int (13 : Int) 0), (PySem.Value.str (PySem.Str.ofString "/claim/cut.py") 245)]) #[])) ::
    (nat_lit 56, (PySem.Obj.mk (PySem.Value.type "function") (Option.none) (PySem.Data.func (PySem.FuncData.mk (PySem.Str.ofString "__init__") (PySem.Str.ofString "NoSectionError.__init__") p2x0 (PySem.FuncBody.stmts b2x0) s2x0 3 ([] : List (Prod PySem.Str Nat)) PySem.Value.none PySem.Value.none PySem.Value.none (PySem.Value.str (PySem.Str.ofString "cpy313.configparser") 187) (Option.none) (PySem.Value.ref 55) PySem.Value.none 0)) #[])) ::
    (nat_lit 57, (PySem.Obj.mk (PySem.Value.type "tuple") (Option.none) (PySem.Data.seq #[(PySem.Value.str (PySem.Str.ofString "args") 247), (PySem.Value.str (PySem.Str.ofString "section") 248)] 0) #[])) ::
    (nat_lit 58, (PySem.Obj.mk (PySem.Value.type "dict") (Option.none) (PySem.Data.dict #[(PySem.DictEntry.mk (PySem.PyData.keyHash P (PySem.Str.ofString "__module__")) (PySem.Value.str (PySem.Str.ofString "__module__") 234) (PySem.Value.str (PySem.Str.ofString "cpy313.configparser") 187)), (PySem.DictEntry.mk (PySem.PyData.keyHash P (PySem.Str.ofString "__firstlineno__")) (PySem.Value.str (PySem.Str.ofString "__firstlineno__") 238) (PySem.Value.int (11 : Int) 237)), (PySem.DictEntry.mk (PySem.PyData.keyHash P (PySem.Str.ofString "__init__")) (PySem.Value.str (PySem.Str.ofString "__init__") 246) (PySem.Value.ref 56)), (PySem.DictEntry.mk (PySem.PyData.keyHash P (PySem.Str.ofString "__static_attributes__")) (PySem.Value.str (PySem.Str.ofString "__static_attributes__") 249) (PySem.Value.ref 57)), (PySem.DictEntry.mk (PySem.PyData.keyHash P (PySem.Str.ofString "__doc__")) (PySem.Value.str (PySem.Str.ofString "__doc__") 250) PySem.Value.none)] 2) #[])) ::
    (nat_lit 59, (PySem.Obj.mk (PySem.Value.type "type") (Option.none) (PySem.Data.cls (PySem.ClassData.mk (PySem.Str.ofString "NoSectionError") [(PySem.Value.ref 39)] [(PySem.Value.ref 59), (PySem.Value.ref 39), (PySem.Value.type "Exception"), (PySem.Value.type "BaseException"), (PySem.Value.type "object")] 58 (PySem.Str.ofString "NoSectionError") Bool.true ([] : List PySem.Str) ([] : List PySem.Value) Bool.false (Option.none) Bool.false)) #[(Option.some (PySem.Value.ref 43)), (Option.none), (Option.some (PySem.Value.str (PySem.Str.ofString "NoSectionError") 227)), (Option.some (PySem.Value.str (PySem.Str.ofString "NoSectionError") 235)), (Option.some (PySem.Value.builtin "Exception.__new__")), (Option.some (PySem.Value.bool Bool.true))])) ::
    (nat_lit 62, (PySem.Obj.mk (PySem.Value.type "tuple") (Option.none) (PySem.Data.seq #[(PySem.Value.ref 39)] 0) #[])) ::
    (nat_lit 69, (PySem.Obj.mk (PySem.Value.type "tuple") (Option.none) (PySem.Data.seq #[PySem.Value.none, PySem.Value.none] 0) #[])) ::
    (nat_lit 70, (PySem.Obj.mk (PySem.Value.type "tuple") (Option.none) (PySem.Data.seq #[] 0) #[])) ::
    (nat_lit 72, (PySem.Obj.mk (PySem.Value.type "tuple") (Option.none) (PySem.Data.seq #[(PySem.Value.str (PySem.Str.ofString "self") 268), (PySem.Value.str (PySem.Str.ofString "section") 269), (PySem.Value.str (PySem.Str.ofString "source") 270), (PySem.Value.str (PySem.Str.ofString "lineno") 271), (PySem.Value.str (PySem.Str.ofString "msg") 272), (PySem.Value.str (PySem.Str.ofString "message") 273)] 0) #[])) ::
    (nat_lit 73, (PySem.Obj.mk (PySem.Value.type "tuple") (Option.none) (PySem.Data.seq #[] 0) #[])) ::
    (nat_lit 75, (PySem.Obj.mk (PySem.Value.type "code") (Option.none) (PySem.Data.fields #[(PySem.Value.str (PySem.Str.ofString "__init__") 265), (PySem.Value.str (PySem.Str.ofString "DuplicateSectionError.__init__") 266), (PySem.Value.str (PySem.Str.ofString "/claim/cut.py") 267), (PySem.Value.int (19 : Int) 0), (PySem.Value.int (4 : Int) 0), (PySem.Value.int (0 : Int) 0), (PySem.Value.int (0 : Int) 0), (PySem.Value.int (3 : Int) 0), (PySem.Value.ref 70), (PySem.Value.bool Bool.true), (PySem.Value.int (181 : Int) 0), (PySem.Value.ref 71), PySem.Value.none, (PySem.Value.ref 72), (PySem.Value.ref 73), (PySem.Value.ref 74), (PySem.Value.int (274 : Int) 0), (PySem.Value.int (19 : Int) 0), (PySem.Value.str (PySem.Str.ofString "/claim/cut.py") 275)]) #[])) ::
    (nat_lit 76, (PySem.Obj.mk (PySem.Value.type "function") (Option.none) (PySem.Data.func (PySem.FuncData.mk (PySem.Str.ofString "__init__") (PySem.Str.ofString "DuplicateSectionError.__init__") p3x0 (PySem.FuncBody.stmts b3x0) s3x0 3 ([] : List (Prod PySem.Str Nat)) (PySem.Value.ref 69) PySem.Value.none PySem.Value.none (PySem.Value.str (PySem.Str.ofString "cpy313.configparser") 187) (Option.none) (PySem.Value.ref 75) PySem.Value.none 0)) #[])) ::
    (nat_lit 77, (PySem.Obj.mk (PySem.Value.type "tuple") (Option.none) (PySem.Data.seq #[(PySem.Value.str (PySem.Str.ofString "args") 277), (PySem.Value.str (PySem.Str.ofString "lineno") 278), (PySem.Value.str (PySem.Str.ofString "section") 279), (PySem.Value.str (PySem.Str.ofString "source") 280)] 0) #[])) ::
    (nat_lit 78, (PySem.Obj.mk (PySem.Value.type "dict") (Option.none) (PySem.Data.dict #[(PySem.DictEntry.mk (PySem.PyData.keyHash P (PySem.Str.ofString "__module__")) (PySem.Value.str (PySem.Str.ofString "__module__") 260) (PySem.Value.str (PySem.Str.ofString "cpy313.configparser") 187)), (PySem.DictEntry.mk (PySem.PyData.keyHash P (PySem.Str.ofString "__firstlineno__")) (PySem.Value.str (PySem.Str.ofString "__firstlineno__") 264) (PySem.Value.int (17 : Int) 263)), (PySem.DictEntry.mk (PySem.PyData.keyHash P (PySem.Str.ofString "__init__")) (PySem.Value.str (PySem.Str.ofString "__init__") 276) (PySem.Value.ref 76)), (PySem.DictEntry.mk (PySem.PyData.keyHash P (PySem.Str.ofString "__static_attributes__")) (PySem.Value.str (PySem.Str.ofString "__static_attributes__") 281) (PySem.Value.ref 77)), (PySem.DictEntry.mk (PySem.PyData.keyHash P (PySem.Str.ofString "__doc__")) (PySem.Value.str (PySem.Str.ofString "__doc__") 282) PySem.Value.none)] 2) #[])) ::
    (nat_lit 79, (PySem.Obj.mk (PySem.Value.type "type") (Option.none) (PySem.Data.cls (PySem.ClassData.mk (PySem.Str.ofString "DuplicateSectionError") [(PySem.Value.ref 39)] [(PySem.Value.ref 79), (PySem.Value.ref 39), (PySem.Value.type "Exception"), (PySem.Value.type "BaseException"), (PySem.Value.type "object")] 78 (PySem.Str.ofString "DuplicateSectionError") Bool.true ([] : List PySem.Str) ([] : List PySem.Value) Bool.false (Option.none) Bool.false)) #[(Option.some (PySem.Value.ref 62)), (Option.none), (Option.some (PySem.Value.str (PySem.Str.ofString "DuplicateSectionError") 253)), (Option.some (PySem.Value.str (PySem.Str.ofString "DuplicateSectionError") 261)), (Option.some (PySem.Value.builtin "Exception.__new__")), (Option.some (PySem.Value.bool Bool.true))])) ::
    (nat_lit 82, (PySem.Obj.mk (PySem.Value.type "tuple") (Option.none) (PySem.Data.seq #[(PySem.Value.ref 39)] 0) #[])) ::
    (nat_lit 89, (PySem.Obj.mk (PySem.Value.type "tuple") (Option.none) (PySem.Data.seq #[PySem.Value.none, PySem.Value.none] 0) #[])) ::
    (nat_lit 90, (PySem.Obj.mk (PySem.Value.type "tuple") (Option.none) (PySem.Data.seq #[] 0) #[])) ::
    (nat_lit 92, (PySem.Obj.mk (PySem.Value.type "tuple") (Option.none) (PySem.Data.seq #[(PySem.Value.str (PySem.Str.ofString "self") 300), (PySem.Value.str (PySem.Str.ofString "section") 301), (PySem.Value.str (PySem.Str.ofString "option") 302), (PySem.Value.str (PySem.Str.ofString "source") 303), (PySem.Value.str (PySem.Str.ofString "lineno") 304), (PySem.Value.str (PySem.Str.ofString "msg") 305), (PySem.Value.str (PySem.Str.ofString "message") 306)] 0) #[])) ::
    (nat_lit 93, (PySem.Obj.mk (PySem.Value.type "tuple") (Option.none) (PySem.Data.seq #[] 0) #[])) ::
    (nat_lit 95, (PySem.Obj.mk (PySem.Value.type "code") (Option.none) (PySem.Data.fields #[(PySem.Value.str (PySem.Str.ofString "__init__") 297), (PySem.Value.str (PySem.Str.ofString "DuplicateOptionError.__init__") 298), (PySem.Value.str (PySem.Str.ofString "/claim/cut.py") 299), (PySem.Value.int (37 : Int) 0), (PySem.Value.int (5 : Int) 0), (PySem.Value.int (0 : Int) 0), (PySem.Value.int (0 : Int) 0), (PySem.Value.int (3 : Int) 0), (PySem.Value.ref 90), (PySem.Value.bool Bool.true), (PySem.Value.int (181 : Int) 0), (PySem.Value.ref 91), PySem.Value.none, (PySem.Value.ref 92), (PySem.Value.ref 93), (PySem.Value.ref 94), (PySem.Value.int (307 : Int) 0), (PySem.Value.int (37 : Int) 0), (PySem.Value.str (PySem.Str.ofString "/claim/cut.py") 308)]) #[])) ::
    (nat_lit 96, (PySem.Obj.mk (PySem.Value.type "function") (Option.none) (PySem.Data.func (PySem.FuncData.mk (PySem.Str.ofString "__init__") (PySem.Str.ofString "DuplicateOptionError.__init__") p4x0 (PySem.FuncBody.stmts b4x0) s4x0 3 ([] : List (Prod PySem.Str Nat)) (PySem.Value.ref 89) PySem.Value.none PySem.Value.none (PySem.Value.str (PySem.Str.ofString "cpy313.configparser") 187) (Option.none) (PySem.Value.ref 95) PySem.Value.none 0)) #[])) ::
    (nat_lit 97, (PySem.Obj.mk (PySem.Value.type "tuple") (Option.none) (PySem.Data.seq #[(PySem.Value.str (PySem.Str.ofString "args") 310), (PySem.Value.str (PySem.Str.ofString "lineno") 311), (PySem.Value.str (PySem.Str.ofString "option") 312), (PySem.Value.str (PySem.Str.ofString "section") 313), (PySem.Value.str (PySem.Str.ofString "source") 314)] 0) #[])) ::
    (nat_lit 98, (PySem.Obj.mk (PySem.Value.type "dict") (Option.none) (PySem.Data.dict #[(PySem.DictEntry.mk (PySem.PyData.keyHash P (PySem.Str.ofString "__module__")) (PySem.Value.str (PySem.Str.ofString "__module__") 292) (PySem.Value.str (PySem.Str.ofString "cpy313.configparser") 187)), (PySem.DictEntry.mk (PySem.PyData.keyHash P (PySem.Str.ofString "__firstlineno__")) (PySem.Value.str (PySem.Str.ofString "__firstlineno__") 296) (PySem.Value.int (35 : Int) 295)), (PySem.DictEntry.mk (PySem.PyData.keyHash P (PySem.Str.ofString "__init__")) (PySem.Value.str (PySem.Str.ofString "__init__") 309) (PySem.Value.ref 96)), (PySem.DictEntry.mk (PySem.PyData.keyHash P (PySem.Str.ofString "__static_attributes__")) (PySem.Value.str (PySem.Str.ofString "__static_attributes__") 315) (PySem.Value.ref 97)), (PySem.DictEntry.mk (PySem.PyData.keyHash P (PySem.Str.ofString "__doc__")) (PySem.Value.str (PySem.Str.ofString "__doc__") 316) PySem.Value.none)] 2) #[])) ::
    (nat_lit 99, (PySem.Obj.mk (PySem.Value.type "type") (Option.none) (PySem.Data.cls (PySem.ClassData.mk (PySem.Str.ofString "DuplicateOptionError") [(PySem.Value.ref 39)] [(PySem.Value.ref 99), (PySem.Value.ref 39), (PySem.Value.type "Exception"), (PySem.Value.type "BaseException"), (PySem.Value.type "object")] 98 (PySem.Str.ofString "DuplicateOptionError") Bool.true ([] : List PySem.Str) ([] : List PySem.Value) Bool.false (Option.none) Bool.false)) #[(Option.some (PySem.Value.ref 82)), (Option.none), (Option.some (PySem.Value.str (PySem.Str.ofString "DuplicateOptionError") 285)), (Option.some (PySem.Value.str (PySem.Str.ofString "DuplicateOptionError") 293)), (Option.some (PySem.Value.builtin "Exception.__new__")), (Option.some (PySem.Value.bool Bool.true))])) ::
    (nat_lit 102, (PySem.Obj.mk (PySem.Value.type "tuple") (Option.none) (PySem.Data.seq #[(PySem.Value.ref 39)] 0) #[])) ::
    (nat_lit 109, (PySem.Obj.mk (PySem.Value.type "tuple") (Option.none) (PySem.Data.seq #[] 0) #[])) ::
    (nat_lit 111, (PySem.Obj.mk (PySem.Value.type "tuple") (Option.none) (PySem.Data.seq #[(PySem.Value.str (PySem.Str.ofString "self") 334), (PySem.Value.str (PySem.Str.ofString "option") 335), (PySem.Value.str (PySem.Str.ofString "section") 336)] 0) #[])) ::
    (nat_lit 112, (PySem.Obj.mk (PySem.Value.type "tuple") (Option.none) (PySem.Data.seq #[] 0) #[])) ::
    (nat_lit 114, (PySem.Obj.mk (PySem.Value.type "code") (Option.none) (PySem.Data.fields #[(PySem.Value.str (PySem.Str.ofString "__init__") 331), (PySem.Value.str (PySem.Str.ofString "NoOptionError.__init__") 332), (PySem.Value.str (PySem.Str.ofString "/claim/cut.py") 333), (PySem.Value.int (56 : Int) 0), (PySem.Value.int (3 : Int) 0), (PySem.Value.int (0 : Int) 0), (PySem.Value.int (0 : Int) 0), (PySem.Value.int (3 : Int) 0), (PySem.Value.ref 109), (PySem.Value.bool Bool.true), (PySem.Value.int (181 : Int) 0), (PySem.Value.ref 110), PySem.Value.none, (PySem.Value.ref 111), (PySem.Value.ref 112), (PySem.Value.ref 113), (PySem.Value.int (337 : Int) 0), (PySem.Value.int (56 : Int) 0), (PySem.Value.str (PySem.Str.ofString "/claim/cut.py") 338)]) #[])) ::
    (nat_lit 115, (PySem.Obj.mk (PySem.Value.type "function") (Option.none) (PySem.Data.func (PySem.FuncData.mk (PySem.Str.ofString "__init__") (PySem.Str.ofString "NoOptionError.__init__") p5x0 (PySem.FuncBody.stmts b5x0) s5x0 3 ([] : List (Prod PySem.Str Nat)) PySem.Value.none PySem.Value.none PySem.Value.none (PySem.Value.str (PySem.Str.ofString "cpy313.configparser") 187) (Option.none) (PySem.Value.ref 114) PySem.Value.none 0)) #[])) ::
    (nat_lit 116, (PySem.Obj.mk (PySem.Value.type "tuple") (Option.none) (PySem.Data.seq #[(PySem.Value.str (PySem.Str.ofString "args") 340), (PySem.Value.str (PySem.Str.ofString "option") 341), (PySem.Value.str (PySem.Str.ofString "section") 342)] 0) #[])) ::
    (nat_lit 117, (PySem.Obj.mk (PySem.Value.type "dict") (Option.none) (PySem.Data.dict #[(PySem.DictEntry.mk (PySem.PyData.keyHash P (PySem.Str.ofString "__module__")) (PySem.Value.str (PySem.Str.ofString "__module__") 326) (PySem.Value.str (PySem.Str.ofString "cpy313.configparser") 187)), (PySem.DictEntry.mk (PySem.PyData.keyHash P (PySem.Str.ofString "__firstlineno__")) (PySem.Value.str (PySem.Str.ofString "__firstlineno__") 330) (PySem.Value.int (54 : Int) 329)), (PySem.DictEntry.mk (PySem.PyData.keyHash P (PySem.Str.ofString "__init__")) (PySem.Value.str (PySem.Str.ofString "__init__") 339) (PySem.Value.ref 115)), (PySem.DictEntry.mk (PySem.PyData.keyHash P (PySem.Str.ofString "__static_attributes__")) (PySem.Value.str (PySem.Str.ofString "__static_attributes__") 343) (PySem.Value.ref 116)), (PySem.DictEntry.mk (PySem.PyData.keyHash P (PySem.Str.ofString "__doc__")) (PySem.Value.str (PySem.Str.ofString "__doc__") 344) PySem.Value.none)] 2) #[])) ::
    (nat_lit 118, (PySem.Obj.mk (PySem.Value.type "type") (Option.none) (PySem.Data.cls (PySem.ClassData.mk (PySem.Str.ofString "NoOptionError") [(PySem.Value.ref 39)] [(PySem.Value.ref 118), (PySem.Value.ref 39), (PySem.Value.type "Exception"), (PySem.Value.type "BaseException"), (PySem.Value.type "object")] 117 (PySem.Str.ofString "NoOptionError") Bool.true ([] : List PySem.Str) ([] : List PySem.Value) Bool.false (Option.none) Bool.false)) #[(Option.some (PySem.Value.ref 102)), (Option.none), (Option.some (PySem.Value.str (PySem.Str.ofString "NoOptionError") 319)), (Option.some (PySem.Value.str (PySem.Str.ofString "NoOptionError") 327)), (Option.some (PySem.Value.builtin "Exception.__new__")), (Option.some (PySem.Value.bool Bool.true))])) ::
    (nat_lit 121, (PySem.Obj.mk (PySem.Value.type "tuple") (Option.none) (PySem.Data.seq #[] 0) #[])) ::
    (nat_lit 123, (PySem.Obj.mk (PySem.Value.type "tuple") (Option.none) (PySem.Data.seq #[(PySem.Value.str (PySem.Str.ofString "rows") 352), (PySem.Value.str (PySem.Str.ofString "seen") 353), (PySem.Value.str (PySem.Str.ofString "name") 354), (PySem.Value.str (PySem.Str.ofString "place") 355), (PySem.Value.str (PySem.Str.ofString "what") 356), (PySem.Value.str (PySem.Str.ofString "first") 357), (PySem.Value.str (PySem.Str.ofString "second") 358)] 0) #[])) ::
    (nat_lit 124, (PySem.Obj.mk (PySem.Value.type "tuple") (Option.none) (PySem.Data.seq #[] 0) #[])) ::
    (nat_lit 126, (PySem.Obj.mk (PySem.Value.type "code") (Option.none) (PySem.Data.fields #[(PySem.Value.str (PySem.Str.ofString "_law_read") 349), (PySem.Value.str (PySem.Str.ofString "_law_read") 350), (PySem.Value.str (PySem.Str.ofString "/claim/cut.py") 351), (PySem.Value.int (62 : Int) 0), (PySem.Value.int (1 : Int) 0), (PySem.Value.int (0 : Int) 0), (PySem.Value.int (0 : Int) 0), (PySem.Value.int (3 : Int) 0), (PySem.Value.ref 121), (PySem.Value.bool Bool.true), (PySem.Value.int (181 : Int) 0), (PySem.Value.ref 122), PySem.Value.none, (PySem.Value.ref 123), (PySem.Value.ref 124), (PySem.Value.ref 125), (PySem.Value.int (359 : Int) 0), (PySem.Value.int (62 : Int) 0), (PySem.Value.str (PySem.Str.ofString "/claim/cut.py") 360)]) #[])) ::
    (nat_lit 127, (PySem.Obj.mk (PySem.Value.type "function") (Option.none) (PySem.Data.func (PySem.FuncData.mk (PySem.Str.ofString "_law_read") (PySem.Str.ofString "_law_read") p7 (PySem.FuncBody.stmts b7) s7 3 ([] : List (Prod PySem.Str Nat)) PySem.Value.none PySem.Value.none PySem.Value.none (PySem.Value.str (PySem.Str.ofString "law_dv0002_01") 347) (Option.none) (PySem.Value.ref 126) PySem.Value.none 0)) #[])) ::
    (nat_lit 128, (PySem.Obj.mk (PySem.Value.type "tuple") (Option.none) (PySem.Data.seq #[] 0) #[])) ::
    (nat_lit 130, (PySem.Obj.mk (PySem.Value.type "tuple") (Option.none) (PySem.Data.seq #[(PySem.Value.str (PySem.Str.ofString "words") 365), (PySem.Value.str (PySem.Str.ofString "start") 366)] 0) #[])) ::
    (nat_lit 131, (PySem.Obj.mk (PySem.Value.type "tuple") (Option.none) (PySem.Data.seq #[] 0) #[])) ::
    (nat_lit 133, (PySem.Obj.mk (PySem.Value.type "code") (Option.none) (PySem.Data.fields #[(PySem.Value.str (PySem.Str.ofString "_law_place") 362), (PySem.Value.str (PySem.Str.ofString "_law_place") 363), (PySem.Value.str (PySem.Str.ofString "/claim/cut.py") 364), (PySem.Value.int (80 : Int) 0), (PySem.Value.int (1 : Int) 0), (PySem.Value.int (0 : Int) 0), (PySem.Value.int (0 : Int) 0), (PySem.Value.int (3 : Int) 0), (PySem.Value.ref 128), (PySem.Value.bool Bool.true), (PySem.Value.int (181 : Int) 0), (PySem.Value.ref 129), PySem.Value.none, (PySem.Value.ref 130), (PySem.Value.ref 131), (PySem.Value.ref 132), (PySem.Value.int (367 : Int) 0), (PySem.Value.int (80 : Int) 0), (PySem.Value.str (PySem.Str.ofString "/claim/cut.py") 368)]) #[])) ::
    (nat_lit 134, (PySem.Obj.mk (PySem.Value.type "function") (Option.none) (PySem.Data.func (PySem.FuncData.mk (PySem.Str.ofString "_law_place") (PySem.Str.ofString "_law_place") p8 (PySem.FuncBody.stmts b8) s8 3 ([] : List (Prod PySem.Str Nat)) PySem.Value.none PySem.Value.none PySem.Value.none (PySem.Value.str (PySem.Str.ofString "law_dv0002_01") 347) (Option.none) (PySem.Value.ref 133) PySem.Value.none 0)) #[])) ::
    (nat_lit 135, (PySem.Obj.mk (PySem.Value.type "tuple") (Option.none) (PySem.Data.seq #[] 0) #[])) ::
    (nat_lit 138, (PySem.Obj.mk (PySem.Value.type "code") (Option.none) (PySem.Data.fields #[(PySem.Value.str (PySem.Str.ofString "_law_fault") 370), (PySem.Value.str (PySem.Str.ofString "_law_fault") 371), (PySem.Value.str (PySem.Str.ofString "/claim/cut.py") 372), (PySem.Value.int (83 : Int) 0), (PySem.Value.int (1 : Int) 0), (PySem.Value.int (0 : Int) 0), (PySem.Value.int (0 : Int) 0), (PySem.Value.int (3 : Int) 0), (PySem.Value.ref 135), (PySem.Value.bool Bool.true), (PySem.Value.int (181 : Int) 0), (PySem.Value.ref 136), PySem.Value.none, PySem.Value.none, PySem.Value.none, (PySem.Value.ref 137), (PySem.Value.int (373 : Int) 0), (PySem.Value.int (83 : Int) 0), (PySem.Value.str (PySem.Str.ofString "/claim/cut.py") 374)]) #[])) ::
    (nat_lit 139, (PySem.Obj.mk (PySem.Value.type "function") (Option.none) (PySem.Data.func (PySem.FuncData.mk (PySem.Str.ofString "_law_fault") (PySem.Str.ofString "_law_fault") p9 (PySem.FuncBody.stmts b9) s9 3 ([] : List (Prod PySem.Str Nat)) PySem.Value.none PySem.Value.none PySem.Value.none (PySem.Value.str (PySem.Str.ofString "law_dv0002_01") 347) (Option.none) (PySem.Value.ref 138) PySem.Value.none 0)) #[])) ::
    (nat_lit 140, (PySem.Obj.mk (PySem.Value.type "tuple") (Option.none) (PySem.Data.seq #[] 0) #[])) ::
    (nat_lit 142, (PySem.Obj.mk (PySem.Value.type "tuple") (Option.none) (PySem.Data.seq #[(PySem.Value.str (PySem.Str.ofString "text") 379)] 0) #[])) ::
    (nat_lit 143, (PySem.Obj.mk (PySem.Value.type "tuple") (Option.none) (PySem.Data.seq #[] 0) #[])) ::
    (nat_lit 145, (PySem.Obj.mk (PySem.Value.type "code") (Option.none) (PySem.Data.fields #[(PySem.Value.str (PySem.Str.ofString "_law_quoted") 376), (PySem.Value.str (PySem.Str.ofString "_law_quoted") 377), (PySem.Value.str (PySem.Str.ofString "/claim/cut.py") 378), (PySem.Value.int (97 : Int) 0), (PySem.Value.int (1 : Int) 0), (PySem.Value.int (0 : Int) 0), (PySem.Value.int (0 : Int) 0), (PySem.Value.int (3 : Int) 0), (PySem.Value.ref 140), (PySem.Value.bool Bool.true), (PySem.Value.int (181 : Int) 0), (PySem.Value.ref 141), PySem.Value.none, (PySem.Value.ref 142), (PySem.Value.ref 143), (PySem.Value.ref 144), (PySem.Value.int (380 : Int) 0), (PySem.Value.int (97 : Int) 0), (PySem.Value.str (PySem.Str.ofString "/claim/cut.py") 381)]) #[])) ::
    (nat_lit 146, (PySem.Obj.mk (PySem.Value.type "function") (Option.none) (PySem.Data.func (PySem.FuncData.mk (PySem.Str.ofString "_law_quoted") (PySem.Str.ofString "_law_quoted") p10 (PySem.FuncBody.stmts b10) s10 3 ([] : List (Prod PySem.Str Nat)) PySem.Value.none PySem.Value.none PySem.Value.none (PySem.Value.str (PySem.Str.ofString "law_dv0002_01") 347) (Option.none) (PySem.Value.ref 145) PySem.Value.none 0)) #[])) ::
    (nat_lit 147, (PySem.Obj.mk (PySem.Value.type "tuple") (Option.none) (PySem.Data.seq #[] 0) #[])) ::
    (nat_lit 149, (PySem.Obj.mk (PySem.Value.type "tuple") (Option.none) (PySem.Data.seq #[(PySem.Value.str (PySem.Str.ofString "rows") 386), (PySem.Value.str (PySem.Str.ofString "kept") 387), (PySem.Value.str (PySem.Str.ofString "log") 388), (PySem.Value.str (PySem.Str.ofString "sections") 389), (PySem.Value.str (PySem.Str.ofString "options") 390), (PySem.Value.str (PySem.Str.ofString "name") 391), (PySem.Value.str (PySem.Str.ofString "what") 392), (PySem.Value.str (PySem.Str.ofString "first") 393), (PySem.Value.str (PySem.Str.ofString "second") 394), (PySem.Value.str (PySem.Str.ofString "line") 395), (PySem.Value.str (PySem.Str.ofString "place") 396), (PySem.Value.str (PySem.Str.ofString "fault") 397), (PySem.Value.str (PySem.Str.ofString "words") 398)] 0) #[])) ::
    (nat_lit 150, (PySem.Obj.mk (PySem.Value.type "tuple") (Option.none) (PySem.Data.seq #[] 0) #[])) ::
    (nat_lit 152, (PySem.Obj.mk (PySem.Value.type "code") (Option.none) (PySem.Data.fields #[(PySem.Value.str (PySem.Str.ofString "_law_due") 383), (PySem.Value.str (PySem.Str.ofString "_law_due") 384), (PySem.Value.str (PySem.Str.ofString "/claim/cut.py") 385), (PySem.Value.int (99 : Int) 0), (PySem.Value.int (1 : Int) 0), (PySem.Value.int (0 : Int) 0), (PySem.Value.int (0 : Int) 0), (PySem.Value.int (3 : Int) 0), (PySem.Value.ref 147), (PySem.Value.bool Bool.true), (PySem.Value.int (181 : Int) 0), (PySem.Value.ref 148), PySem.Value.none, (PySem.Value.ref 149), (PySem.Value.ref 150), (PySem.Value.ref 151), (PySem.Value.int (399 : Int) 0), (PySem.Value.int (99 : Int) 0), (PySem.Value.str (PySem.Str.ofString "/claim/cut.py") 400)]) #[])) ::
    (nat_lit 153, (PySem.Obj.mk (PySem.Value.type "function") (Option.none) (PySem.Data.func (PySem.FuncData.mk (PySem.Str.ofString "_law_due") (PySem.Str.ofString "_law_due") p11 (PySem.FuncBody.stmts b11) s11 3 ([] : List (Prod PySem.Str Nat)) PySem.Value.none PySem.Value.none PySem.Value.none (PySem.Value.str (PySem.Str.ofString "law_dv0002_01") 347) (Option.none) (PySem.Value.ref 152) PySem.Value.none 0)) #[])) ::
    (nat_lit 154, (PySem.Obj.mk (PySem.Value.type "tuple") (Option.none) (PySem.Data.seq #[] 0) #[])) ::
    (nat_lit 156, (PySem.Obj.mk (PySem.Value.type "tuple") (Option.none) (PySem.Data.seq #[(PySem.Value.str (PySem.Str.ofString "script") 405), (PySem.Value.str (PySem.Str.ofString "rows") 406), (PySem.Value.str (PySem.Str.ofString "x") 407), (PySem.Value.str (PySem.Str.ofString "rest") 408), (PySem.Value.str (PySem.Str.ofString "kind") 409), (PySem.Value.str (PySem.Str.ofString "section") 410), (PySem.Value.str (PySem.Str.ofString "option") 411), (PySem.Value.str (PySem.Str.ofString "due") 412), (PySem.Value.str (PySem.Str.ofString "log") 413), (PySem.Value.str (PySem.Str.ofString "turn") 414), (PySem.Value.str (PySem.Str.ofString "fault") 415)] 0) #[])) ::
    (nat_lit 157, (PySem.Obj.mk (PySem.Value.type "tuple") (Option.none) (PySem.Data.seq #[] 0) #[])) ::
    (nat_lit 159, (PySem.Obj.mk (PySem.Value.type "code") (Option.none) (PySem.Data.fields #[(PySem.Value.str (PySem.Str.ofString "law") 402), (PySem.Value.str (PySem.Str.ofString "law") 403), (PySem.Value.str (PySem.Str.ofString "/claim/cut.py") 404), (PySem.Value.int (132 : Int) 0), (PySem.Value.int (1 : Int) 0), (PySem.Value.int (0 : Int) 0), (PySem.Value.int (0 : Int) 0), (PySem.Value.int (3 : Int) 0), (PySem.Value.ref 154), (PySem.Value.bool Bool.true), (PySem.Value.int (181 : Int) 0), (PySem.Value.ref 155), PySem.Value.none, (PySem.Value.ref 156), (PySem.Value.ref 157), (PySem.Value.ref 158), (PySem.Value.int (416 : Int) 0), (PySem.Value.int (132 : Int) 0), (PySem.Value.str (PySem.Str.ofString "/claim/cut.py") 417)]) #[])) ::
    (nat_lit 160, (PySem.Obj.mk (PySem.Value.type "function") (Option.none) (PySem.Data.func (PySem.FuncData.mk (PySem.Str.ofString "law") (PySem.Str.ofString "law") p12 (PySem.FuncBody.stmts b12) s12 3 ([] : List (Prod PySem.Str Nat)) PySem.Value.none PySem.Value.none PySem.Value.none (PySem.Value.str (PySem.Str.ofString "law_dv0002_01") 347) (Option.none) (PySem.Value.ref 159) PySem.Value.none 0)) #[])) :: [] : PySem.W.Frag)) _ _ _ _ _ _ _ _ _ _ _ _ _ _ _ _ _ _ _ _ _ _ _ _ _ _ _ _ _ _ _ _ _ _ _ _ (by conv => lhs; whnf) (by conv => lhs; whnf) (by conv => lhs; whnf) (by conv => lhs; whnf) (by conv => lhs; whnf) (by conv => lhs; whnf) (by conv => lhs; whnf) (by conv => lhs; whnf) (by conv => lhs; whnf) (by conv => lhs; whnf) (by conv => lhs; whnf) (by conv => lhs; whnf) (by conv => lhs; whnf) (by conv => lhs; whnf) (by conv => lhs; whnf) (by conv => lhs; whnf) (by conv => lhs; whnf) (by conv => lhs; whnf) (by conv => lhs; whnf) (by conv => lhs; whnf) (by conv => lhs; whnf) (by conv => lhs; whnf) (by conv => lhs; whnf) (by conv => lhs; whnf) (by conv => lhs; whnf) (by conv => lhs; whnf) (by conv => lhs; whnf) (by conv => lhs; whnf) (by conv => lhs; whnf) (by conv => lhs; whnf) (by conv => lhs; whnf) (by conv => lhs; whnf) (by conv => lhs; whnf) (by conv => lhs; whnf) (by conv => lhs; whnf) (by conv => lhs; whnf)
noncomputable abbrev hd.env_41 : PySem.Env := (PySem.Env.mk (PySem.Module.scope (PySem.Program.main pE)) PySem.mainNs PySem.mainNs ([] : List (Prod PySem.Str PySem.Addr)) PySem.Str.empty (Option.none) (PySem.Value.ref 13) (Option.some (14 : PySem.Addr)) (0 : PySem.Addr))
noncomputable abbrev hd.o_43 : PySem.Params → PySem.Obj := (fun (P : PySem.Params) => (PySem.Obj.mk (PySem.Value.type "tuple") (Option.none) (PySem.Data.seq #[] 0) #[]))
noncomputable abbrev hd.o_44 : PySem.Params → PySem.Obj := (fun (P : PySem.Params) => (PySem.Obj.mk PySem.Value.none (Option.none) (PySem.Data.fields #[]) #[]))
noncomputable abbrev hd.o_45 : PySem.Params → PySem.Obj := (fun (P : PySem.Params) => (PySem.Obj.mk (PySem.Value.type "code") (Option.none) (PySem.Data.fields #[(PySem.Value.str (PySem.Str.ofString "<module>") 182), (PySem.Value.str (PySem.Str.ofString "<module>") 183), (PySem.Value.str (PySem.Str.ofString "/claim/cut.py") 184), (PySem.Value.int (1 : Int) 0), (PySem.Value.int (0 : Int) 0), (PySem.Value.int (0 : Int) 0), (PySem.Value.int (0 : Int) 0), (PySem.Value.int (0 : Int) 0), (PySem.Value.ref 11), (PySem.Value.bool Bool.false), (PySem.Value.int (181 : Int) 0), (PySem.Value.ref 12), PySem.Value.none, PySem.Value.none, PySem.Value.none, PySem.Value.none, (PySem.Value.int (185 : Int) 0), (PySem.Value.int (1 : Int) 0), (PySem.Value.str (PySem.Str.ofString "/claim/cut.py") 186)]) #[]))
noncomputable abbrev hd.o_46 : PySem.Params → PySem.Obj := (fun (P : PySem.Params) => (PySem.Obj.mk (PySem.Value.type "frame") (Option.none) PySem.Data.plain #[(Option.some (PySem.Value.ref 13)), (Option.some (PySem.Value.ref 3)), (Option.some (PySem.Value.ref 3)), (Option.none), (Option.some (PySem.Value.str (PySem.Str.ofString "__main__") 164)), (Option.none), (Option.some (PySem.Value.ref 0))]))
noncomputable abbrev hd.o_49 : PySem.Params → PySem.Obj := (fun (P : PySem.Params) => (PySem.Obj.mk PySem.Value.none (Option.none) (PySem.Data.dict #[(PySem.DictEntry.mk (PySem.PyData.keyHash P (PySem.Str.ofString "type.__subclasses__.Exception.0")) (PySem.Value.str (PySem.Str.ofString "type.__subclasses__.Exception.0") 223) (PySem.Value.int (39 : Int) 0)), (PySem.DictEntry.mk (PySem.PyData.keyHash P (PySem.Str.ofString "type.__subclasses__.Exception.n")) (PySem.Value.str (PySem.Str.ofString "type.__subclasses__.Exception.n") 224) (PySem.Value.int (1 : Int) 0))] 2) #[]))
noncomputable abbrev hd.o_50 : PySem.Params → PySem.Obj := (fun (P : PySem.Params) => (PySem.Obj.mk (PySem.Value.type "dict") (Option.none) (PySem.Data.dict #[(PySem.DictEntry.mk (PySem.PyData.keyHash P (PySem.Str.ofString "__name__")) (PySem.Value.str (PySem.Str.ofString "__name__") 165) (PySem.Value.str (PySem.Str.ofString "cpy313.configparser") 187)), (PySem.DictEntry.mk (PySem.PyData.keyHash P (PySem.Str.ofString "__doc__")) (PySem.Value.str (PySem.Str.ofString "__doc__") 166) PySem.Value.none), (PySem.DictEntry.mk (PySem.PyData.keyHash P (PySem.Str.ofString "__package__")) (PySem.Value.str (PySem.Str.ofString "__package__") 167) PySem.Value.none), (PySem.DictEntry.mk (PySem.PyData.keyHash P (PySem.Str.ofString "__loader__")) (PySem.Value.str (PySem.Str.ofString "__loader__") 168) (PySem.Value.builtin "__main__.__loader__#opaque")), (PySem.DictEntry.mk (PySem.PyData.keyHash P (PySem.Str.ofString "__spec__")) (PySem.Value.str (PySem.Str.ofString "__spec__") 169) PySem.Value.none), (PySem.DictEntry.mk (PySem.PyData.keyHash P (PySem.Str.ofString "__annotations__")) (PySem.Value.str (PySem.Str.ofString "__annotations__") 170) (PySem.Value.ref 6)), (PySem.DictEntry.mk (PySem.PyData.keyHash P (PySem.Str.ofString "__builtins__")) (PySem.Value.str (PySem.Str.ofString "__builtins__") 171) (PySem.Value.ref 4)), (PySem.DictEntry.mk (PySem.PyData.keyHash P (PySem.Str.ofString "__file__")) (PySem.Value.str (PySem.Str.ofString "__file__") 173) (PySem.Value.str (PySem.Str.ofString "/claim/cut.py") 172)), (PySem.DictEntry.mk (PySem.PyData.keyHash P (PySem.Str.ofString "__cached__")) (PySem.Value.str (PySem.Str.ofString "__cached__") 174) PySem.Value.none), (PySem.DictEntry.mk (PySem.PyData.keyHash P (PySem.Str.ofString "Error")) (PySem.Value.str (PySem.Str.ofString "Error") 226) (PySem.Value.ref 39))] 10) #[]))
noncomputable abbrev hd.o_51 : PySem.Params → PySem.Obj := (fun (P : PySem.Params) => (PySem.Obj.mk PySem.Value.none (Option.none) (PySem.Data.fields #[(PySem.Value.int (2 : Int) 0), (PySem.Value.int (0 : Int) 0), (PySem.Value.ref 20)]) #[]))
noncomputable abbrev hd.o_52 : PySem.Params → PySem.Obj := (fun (P : PySem.Params) => (PySem.Obj.mk (PySem.Value.type "tuple") (Option.none) (PySem.Data.seq #[(PySem.Value.type "Exception")] 0) #[]))
noncomputable abbrev hd.o_53 : PySem.Params → PySem.Obj := (fun (P : PySem.Params) => (PySem.Obj.mk (PySem.Value.type "builtin_function_or_method") (Option.none) (PySem.Data.fields #[(PySem.Value.builtin "type.__prepare__"), (PySem.Value.type "type")]) #[]))
noncomputable abbrev hd.o_54 : PySem.Params → PySem.Obj := (fun (P : PySem.Params) => (PySem.Obj.mk (PySem.Value.type "dict") (Option.none) (PySem.Data.dict #[(PySem.DictEntry.mk (PySem.PyData.keyHash P (PySem.Str.ofString "__module__")) (PySem.Value.str (PySem.Str.ofString "__module__") 196) (PySem.Value.str (PySem.Str.ofString "cpy313.configparser") 187)), (PySem.DictEntry.mk (PySem.PyData.keyHash P (PySem.Str.ofString "__qualname__")) (PySem.Value.str (PySem.Str.ofString "__qualname__") 198) (PySem.Value.str (PySem.Str.ofString "Error") 197)), (PySem.DictEntry.mk (PySem.PyData.keyHash P (PySem.Str.ofString "__firstlineno__")) (PySem.Value.str (PySem.Str.ofString "__firstlineno__") 200) (PySem.Value.int (2 : Int) 199)), (PySem.DictEntry.mk (PySem.PyData.keyHash P (PySem.Str.ofString "__init__")) (PySem.Value.str (PySem.Str.ofString "__init__") 209) (PySem.Value.ref 29)), (PySem.DictEntry.mk (PySem.PyData.keyHash P (PySem.Str.ofString "__repr__")) (PySem.Value.str (PySem.Str.ofString "__repr__") 216) (PySem.Value.ref 36)), (PySem.DictEntry.mk (PySem.PyData.keyHash P (PySem.Str.ofString "__str__")) (PySem.Value.str (PySem.Str.ofString "__str__") 217) (PySem.Value.ref 36)), (PySem.DictEntry.mk (PySem.PyData.keyHash P (PySem.Str.ofString "__static_attributes__")) (PySem.Value.str (PySem.Str.ofString "__static_attributes__") 219) (PySem.Value.ref 37))] 7) #[]))
noncomputable abbrev hd.o_55 : PySem.Params → PySem.Obj := (fun (P : PySem.Params) => (PySem.Obj.mk (PySem.Value.type "tuple") (Option.none) (PySem.Data.seq #[] 0) #[]))
noncomputable abbrev hd.o_56 : PySem.Params → PySem.Obj := (fun (P : PySem.Params) => (PySem.Obj.mk PySem.Value.none (Option.none) (PySem.Data.fields #[(PySem.Value.int (4 : Int) 0), (PySem.Value.int (4 : Int) 0), (PySem.Value.ref 28), (PySem.Value.int (8 : Int) 0), (PySem.Value.int (4 : Int) 0), (PySem.Value.ref 35)]) #[]))
noncomputable abbrev hd.o_57 : PySem.Params → PySem.Obj := (fun (P : PySem.Params) => (PySem.Obj.mk (PySem.Value.type "code") (Option.none) (PySem.Data.fields #[(PySem.Value.str (PySem.Str.ofString "Error") 191), (PySem.Value.str (PySem.Str.ofString "Error") 192), (PySem.Value.str (PySem.Str.ofString "/claim/cut.py") 193), (PySem.Value.int (2 : Int) 0), (PySem.Value.int (0 : Int) 0), (PySem.Value.int (0 : Int) 0), (PySem.Value.int (0 : Int) 0), (PySem.Value.int (0 : Int) 0), (PySem.Value.ref 18), (PySem.Value.bool Bool.false), (PySem.Value.int (181 : Int) 0), (PySem.Value.ref 19), PySem.Value.none, PySem.Value.none, PySem.Value.none, PySem.Value.none, (PySem.Value.int (194 : Int) 0), (PySem.Value.int (2 : Int) 0), (PySem.Value.str (PySem.Str.ofString "/claim/cut.py") 195)]) #[]))
noncomputable abbrev hd.o_58 : PySem.Params → PySem.Obj := (fun (P : PySem.Params) => (PySem.Obj.mk (PySem.Value.type "frame") (Option.none) PySem.Data.plain #[(Option.some (PySem.Value.ref 20)), (Option.some (PySem.Value.ref 3)), (Option.some (PySem.Value.ref 17)), (Option.none), (Option.some (PySem.Value.str (PySem.Str.ofString "cpy313.configparser") 187)), (Option.none), (Option.some (PySem.Value.ref 0))]))
noncomputable abbrev hd.o_59 : PySem.Params → PySem.Obj := (fun (P : PySem.Params) => (PySem.Obj.mk (PySem.Value.type "tuple") (Option.none) (PySem.Data.seq #[(PySem.Value.str (PySem.Str.ofString "") 201)] 0) #[]))
noncomputable abbrev hd.o_60 : PySem.Params → PySem.Obj := (fun (P : PySem.Params) => (PySem.Obj.mk (PySem.Value.type "tuple") (Option.none) (PySem.Data.seq #[] 0) #[]))
noncomputable abbrev hd.o_61 : PySem.Params → PySem.Obj := (fun (P : PySem.Params) => (PySem.Obj.mk PySem.Value.none (Option.none) (PySem.Data.fields #[]) #[]))
noncomputable abbrev hd.o_62 : PySem.Params → PySem.Obj := (fun (P : PySem.Params) => (PySem.Obj.mk (PySem.Value.type "tuple") (Option.none) (PySem.Data.seq #[(PySem.Value.str (PySem.Str.ofString "self") 205), (PySem.Value.str (PySem.Str.ofString "msg") 206)] 0) #[]))
noncomputable abbrev hd.o_63 : PySem.Params → PySem.Obj := (fun (P : PySem.Params) => (PySem.Obj.mk (PySem.Value.type "tuple") (Option.none) (PySem.Data.seq #[] 0) #[]))
noncomputable abbrev hd.o_64 : PySem.Params → PySem.Obj := (fun (P : PySem.Params) => (PySem.Obj.mk PySem.Value.none (Option.none) (PySem.Data.func (PySem.FuncData.mk (PySem.Str.ofString "__init__") (PySem.Str.ofString "Error.__init__") (fP (sIn 1 0)) (PySem.FuncBody.stmts (fB (sIn 1 0))) (fS (sIn 1 0)) 0 ([] : List (Prod PySem.Str Nat)) PySem.Value.none PySem.Value.none PySem.Value.none PySem.Value.none (Option.none) PySem.Value.none PySem.Value.none 0)) #[]))
noncomputable abbrev hd.o_65 : PySem.Params → PySem.Obj := (fun (P : PySem.Params) => (PySem.Obj.mk (PySem.Value.type "code") (Option.none) (PySem.Data.fields #[(PySem.Value.str (PySem.Str.ofString "__init__") 202), (PySem.Value.str (PySem.Str.ofString "Error.__init__") 203), (PySem.Value.str (PySem.Str.ofString "/claim/cut.py") 204), (PySem.Value.int (4 : Int) 0), (PySem.Value.int (2 : Int) 0), (PySem.Value.int (0 : Int) 0), (PySem.Value.int (0 : Int) 0), (PySem.Value.int (3 : Int) 0), (PySem.Value.ref 23), (PySem.Value.bool Bool.true), (PySem.Value.int (181 : Int) 0), (PySem.Value.ref 24), PySem.Value.none, (PySem.Value.ref 25), (PySem.Value.ref 26), (PySem.Value.ref 27), (PySem.Value.int (207 : Int) 0), (PySem.Value.int (4 : Int) 0), (PySem.Value.str (PySem.Str.ofString "/claim/cut.py") 208)]) #[]))
noncomputable abbrev hd.o_66 : PySem.Params → PySem.Obj := (fun (P : PySem.Params) => (PySem.Obj.mk (PySem.Value.type "function") (Option.none) (PySem.Data.func (PySem.FuncData.mk (PySem.Str.ofString "__init__") (PySem.Str.ofString "Error.__init__") (fP (sIn 1 0)) (PySem.FuncBody.stmts (fB (sIn 1 0))) (fS (sIn 1 0)) 3 ([] : List (Prod PySem.Str Nat)) (PySem.Value.ref 22) PySem.Value.none PySem.Value.none (PySem.Value.str (PySem.Str.ofString "cpy313.configparser") 187) (Option.none) (PySem.Value.ref 28) PySem.Value.none 0)) #[]))
noncomputable abbrev hd.o_67 : PySem.Params → PySem.Obj := (fun (P : PySem.Params) => (PySem.Obj.mk (PySem.Value.type "tuple") (Option.none) (PySem.Data.seq #[] 0) #[]))
noncomputable abbrev hd.o_68 : PySem.Params → PySem.Obj := (fun (P : PySem.Params) => (PySem.Obj.mk PySem.Value.none (Option.none) (PySem.Data.fields #[]) #[]))
noncomputable abbrev hd.o_69 : PySem.Params → PySem.Obj := (fun (P : PySem.Params) => (PySem.Obj.mk (PySem.Value.type "tuple") (Option.none) (PySem.Data.seq #[(PySem.Value.str (PySem.Str.ofString "self") 213)] 0) #[]))
noncomputable abbrev hd.o_70 : PySem.Params → PySem.Obj := (fun (P : PySem.Params) => (PySem.Obj.mk (PySem.Value.type "tuple") (Option.none) (PySem.Data.seq #[] 0) #[]))
noncomputable abbrev hd.o_71 : PySem.Params → PySem.Obj := (fun (P : PySem.Params) => (PySem.Obj.mk PySem.Value.none (Option.none) (PySem.Data.func (PySem.FuncData.mk (PySem.Str.ofString "__repr__") (PySem.Str.ofString "Error.__repr__") (fP (sIn 1 1)) (PySem.FuncBody.stmts (fB (sIn 1 1))) (fS (sIn 1 1)) 0 ([] : List (Prod PySem.Str Nat)) PySem.Value.none PySem.Value.none PySem.Value.none PySem.Value.none (Option.none) PySem.Value.none PySem.Value.none 0)) #[]))
noncomputable abbrev hd.o_72 : PySem.Params → PySem.Obj := (fun (P : PySem.Params) => (PySem.Obj.mk (PySem.Value.type "code") (Option.none) (PySem.Data.fields #[(PySem.Value.str (PySem.Str.ofString "__repr__") 210), (PySem.Value.str (PySem.Str.ofString "Error.__repr__") 211), (PySem.Value.str (PySem.Str.ofString "/claim/cut.py") 212), (PySem.Value.int (8 : Int) 0), (PySem.Value.int (1 : Int) 0), (PySem.Value.int (0 : Int) 0), (PySem.Value.int (0 : Int) 0), (PySem.Value.int (3 : Int) 0), (PySem.Value.ref 30), (PySem.Value.bool Bool.true), (PySem.Value.int (181 : Int) 0), (PySem.Value.ref 31), PySem.Value.none, (PySem.Value.ref 32), (PySem.Value.ref 33), (PySem.Value.ref 34), (PySem.Value.int (214 : Int) 0), (PySem.Value.int (8 : Int) 0), (PySem.Value.str (PySem.Str.ofString "/claim/cut.py") 215)]) #[]))
noncomputable abbrev hd.o_73 : PySem.Params → PySem.Obj := (fun (P : PySem.Params) => (PySem.Obj.mk (PySem.Value.type "function") (Option.none) (PySem.Data.func (PySem.FuncData.mk (PySem.Str.ofString "__repr__") (PySem.Str.ofString "Error.__repr__") (fP (sIn 1 1)) (PySem.FuncBody.stmts (fB (sIn 1 1))) (fS (sIn 1 1)) 3 ([] : List (Prod PySem.Str Nat)) PySem.Value.none PySem.Value.none PySem.Value.none (PySem.Value.str (PySem.Str.ofString "cpy313.configparser") 187) (Option.none) (PySem.Value.ref 35) PySem.Value.none 0)) #[]))
noncomputable abbrev hd.o_74 : PySem.Params → PySem.Obj := (fun (P : PySem.Params) => (PySem.Obj.mk (PySem.Value.type "tuple") (Option.none) (PySem.Data.seq #[(PySem.Value.str (PySem.Str.ofString "message") 218)] 0) #[]))
noncomputable abbrev hd.o_75 : PySem.Params → PySem.Obj := (fun (P : PySem.Params) => (PySem.Obj.mk (PySem.Value.type "dict") (Option.none) (PySem.Data.dict #[(PySem.DictEntry.mk (PySem.PyData.keyHash P (PySem.Str.ofString "__module__")) (PySem.Value.str (PySem.Str.ofString "__module__") 196) (PySem.Value.str (PySem.Str.ofString "cpy313.configparser") 187)), (PySem.DictEntry.mk (PySem.PyData.keyHash P (PySem.Str.ofString "__firstlineno__")) (PySem.Value.str (PySem.Str.ofString "__firstlineno__") 200) (PySem.Value.int (2 : Int) 199)), (PySem.DictEntry.mk (PySem.PyData.keyHash P (PySem.Str.ofString "__init__")) (PySem.Value.str (PySem.Str.ofString "__init__") 209) (PySem.Value.ref 29)), (PySem.DictEntry.mk (PySem.PyData.keyHash P (PySem.Str.ofString "__repr__")) (PySem.Value.str (PySem.Str.ofString "__repr__") 216) (PySem.Value.ref 36)), (PySem.DictEntry.mk (PySem.PyData.keyHash P (PySem.Str.ofString "__str__")) (PySem.Value.str (PySem.Str.ofString "__str__") 217) (PySem.Value.ref 36)), (PySem.DictEntry.mk (PySem.PyData.keyHash P (PySem.Str.ofString "__static_attributes__")) (PySem.Value.str (PySem.Str.ofString "__static_attributes__") 219) (PySem.Value.ref 37)), (PySem.DictEntry.mk (PySem.PyData.keyHash P (PySem.Str.ofString "__weakref__")) (PySem.Value.str (PySem.Str.ofString "__weakref__") 221) (PySem.Value.ref 40)), (PySem.DictEntry.mk (PySem.PyData.keyHash P (PySem.Str.ofString "__doc__")) (PySem.Value.str (PySem.Str.ofString "__doc__") 222) PySem.Value.none)] 3) #[]))
noncomputable abbrev hd.o_76 : PySem.Params → PySem.Obj := (fun (P : PySem.Params) => (PySem.Obj.mk (PySem.Value.type "type") (Option.none) (PySem.Data.cls (PySem.ClassData.mk (PySem.Str.ofString "Error") [(PySem.Value.type "Exception")] [(PySem.Value.ref 39), (PySem.Value.type "Exception"), (PySem.Value.type "BaseException"), (PySem.Value.type "object")] 38 (PySem.Str.ofString "Error") Bool.true ([] : List PySem.Str) ([] : List PySem.Value) Bool.false (Option.none) Bool.false)) #[(Option.some (PySem.Value.ref 15)), (Option.none), (Option.some (PySem.Value.str (PySem.Str.ofString "Error") 189)), (Option.some (PySem.Value.str (PySem.Str.ofString "Error") 197)), (Option.some (PySem.Value.builtin "Exception.__new__")), (Option.some (PySem.Value.bool Bool.true))]))
noncomputable abbrev hd.o_77 : PySem.Params → PySem.Obj := (fun (P : PySem.Params) => (PySem.Obj.mk (PySem.Value.type "getset_descriptor") (Option.none) (PySem.Data.fields #[(PySem.Value.str (PySem.Str.ofString "__weakref__") 220), (PySem.Value.ref 39), (PySem.Value.builtin "ExceptionGroup.__weakref__"), PySem.Value.none]) #[]))
noncomputable abbrev hd.o_78 : PySem.Params → PySem.Obj := (fun (P : PySem.Params) => (PySem.Obj.mk (PySem.Value.type "super") (Option.none) (PySem.Data.fields #[(PySem.Value.ref 39), (PySem.Value.ref 39), (PySem.Value.ref 39)]) #[]))
noncomputable abbrev hd.o_79 : PySem.Params → PySem.Obj := (fun (P : PySem.Params) => (PySem.Obj.mk (PySem.Value.type "builtin_function_or_method") (Option.none) (PySem.Data.fields #[(PySem.Value.builtin "object.__init_subclass__"), (PySem.Value.ref 39)]) #[]))
noncomputable abbrev hd.o_80 : PySem.Params → PySem.Obj := (fun (P : PySem.Params) => (PySem.Obj.mk (PySem.Value.type "dict") (Option.none) (PySem.Data.dict #[(PySem.DictEntry.mk (PySem.PyData.keyHash P (PySem.Str.ofString "__name__")) (PySem.Value.str (PySem.Str.ofString "__name__") 165) (PySem.Value.str (PySem.Str.ofString "cpy313.configparser") 187)), (PySem.DictEntry.mk (PySem.PyData.keyHash P (PySem.Str.ofString "__doc__")) (PySem.Value.str (PySem.Str.ofString "__doc__") 166) PySem.Value.none), (PySem.DictEntry.mk (PySem.PyData.keyHash P (PySem.Str.ofString "__package__")) (PySem.Value.str (PySem.Str.ofString "__package__") 167) PySem.Value.none), (PySem.DictEntry.mk (PySem.PyData.keyHash P (PySem.Str.ofString "__loader__")) (PySem.Value.str (PySem.Str.ofString "__loader__") 168) (PySem.Value.builtin "__main__.__loader__#opaque")), (PySem.DictEntry.mk (PySem.PyData.keyHash P (PySem.Str.ofString "__spec__")) (PySem.Value.str (PySem.Str.ofString "__spec__") 169) PySem.Value.none), (PySem.DictEntry.mk (PySem.PyData.keyHash P (PySem.Str.ofString "__annotations__")) (PySem.Value.str (PySem.Str.ofString "__annotations__") 170) (PySem.Value.ref 6)), (PySem.DictEntry.mk (PySem.PyData.keyHash P (PySem.Str.ofString "__builtins__")) (PySem.Value.str (PySem.Str.ofString "__builtins__") 171) (PySem.Value.ref 4)), (PySem.DictEntry.mk (PySem.PyData.keyHash P (PySem.Str.ofString "__file__")) (PySem.Value.str (PySem.Str.ofString "__file__") 173) (PySem.Value.str (PySem.Str.ofString "/claim/cut.py") 172)), (PySem.DictEntry.mk (PySem.PyData.keyHash P (PySem.Str.ofString "__cached__")) (PySem.Value.str (PySem.Str.ofString "__cached__") 174) PySem.Value.none), (PySem.DictEntry.mk (PySem.PyData.keyHash P (PySem.Str.ofString "Error")) (PySem.Value.str (PySem.Str.ofString "Error") 226) (PySem.Value.ref 39)), (PySem.DictEntry.mk (PySem.PyData.keyHash P (PySem.Str.ofString "NoSectionError")) (PySem.Value.str (PySem.Str.ofString "NoSectionError") 252) (PySem.Value.ref 59))] 11) #[]))
noncomputable abbrev hd.o_81 : PySem.Params → PySem.Obj := (fun (P : PySem.Params) => (PySem.Obj.mk PySem.Value.none (Option.none) (PySem.Data.fields #[(PySem.Value.int (2 : Int) 0), (PySem.Value.int (0 : Int) 0), (PySem.Value.ref 20), (PySem.Value.int (11 : Int) 0), (PySem.Value.int (0 : Int) 0), (PySem.Value.ref 48)]) #[]))
noncomputable abbrev hd.o_82 : PySem.Params → PySem.Obj := (fun (P : PySem.Params) => (PySem.Obj.mk (PySem.Value.type "type") (Option.none) (PySem.Data.cls (PySem.ClassData.mk (PySem.Str.ofString "Error") [(PySem.Value.type "Exception")] [(PySem.Value.ref 39), (PySem.Value.type "Exception"), (PySem.Value.type "BaseException"), (PySem.Value.type "object")] 38 (PySem.Str.ofString "Error") Bool.true ([] : List PySem.Str) [(PySem.Value.ref 59)] Bool.false (Option.none) Bool.false)) #[(Option.some (PySem.Value.ref 15)), (Option.none), (Option.some (PySem.Value.str (PySem.Str.ofString "Error") 189)), (Option.some (PySem.Value.str (PySem.Str.ofString "Error") 197)), (Option.some (PySem.Value.builtin "Exception.__new__")), (Option.some (PySem.Value.bool Bool.true))]))
noncomputable abbrev hd.o_83 : PySem.Params → PySem.Obj := (fun (P : PySem.Params) => (PySem.Obj.mk (PySem.Value.type "tuple") (Option.none) (PySem.Data.seq #[(PySem.Value.ref 39)] 0) #[]))
noncomputable abbrev hd.o_84 : PySem.Params → PySem.Obj := (fun (P : PySem.Params) => (PySem.Obj.mk (PySem.Value.type "builtin_function_or_method") (Option.none) (PySem.Data.fields #[(PySem.Value.builtin "type.__prepare__"), (PySem.Value.type "type")]) #[]))
noncomputable abbrev hd.o_85 : PySem.Params → PySem.Obj := (fun (P : PySem.Params) => (PySem.Obj.mk (PySem.Value.type "dict") (Option.none) (PySem.Data.dict #[(PySem.DictEntry.mk (PySem.PyData.keyHash P (PySem.Str.ofString "__module__")) (PySem.Value.str (PySem.Str.ofString "__module__") 234) (PySem.Value.str (PySem.Str.ofString "cpy313.configparser") 187)), (PySem.DictEntry.mk (PySem.PyData.keyHash P (PySem.Str.ofString "__qualname__")) (PySem.Value.str (PySem.Str.ofString "__qualname__") 236) (PySem.Value.str (PySem.Str.ofString "NoSectionError") 235)), (PySem.DictEntry.mk (PySem.PyData.keyHash P (PySem.Str.ofString "__firstlineno__")) (PySem.Value.str (PySem.Str.ofString "__firstlineno__") 238) (PySem.Value.int (11 : Int) 237)), (PySem.DictEntry.mk (PySem.PyData.keyHash P (PySem.Str.ofString "__init__")) (PySem.Value.str (PySem.Str.ofString "__init__") 246) (PySem.Value.ref 56)), (PySem.DictEntry.mk (PySem.PyData.keyHash P (PySem.Str.ofString "__static_attributes__")) (PySem.Value.str (PySem.Str.ofString "__static_attributes__") 249) (PySem.Value.ref 57))] 5) #[]))
noncomputable abbrev hd.o_86 : PySem.Params → PySem.Obj := (fun (P : PySem.Params) => (PySem.Obj.mk (PySem.Value.type "tuple") (Option.none) (PySem.Data.seq #[] 0) #[]))
noncomputable abbrev hd.o_87 : PySem.Params → PySem.Obj := (fun (P : PySem.Params) => (PySem.Obj.mk PySem.Value.none (Option.none) (PySem.Data.fields #[(PySem.Value.int (13 : Int) 0), (PySem.Value.int (4 : Int) 0), (PySem.Value.ref 55)]) #[]))
noncomputable abbrev hd.o_88 : PySem.Params → PySem.Obj := (fun (P : PySem.Params) => (PySem.Obj.mk (PySem.Value.type "code") (Option.none) (PySem.Data.fields #[(PySem.Value.str (PySem.Str.ofString "NoSectionError") 229), (PySem.Value.str (PySem.Str.ofString "NoSectionError") 230), (PySem.Value.str (PySem.Str.ofString "/claim/cut.py") 231), (PySem.Value.int (11 : Int) 0), (PySem.Value.int (0 : Int) 0), (PySem.Value.int (0 : Int) 0), (PySem.Value.int (0 : Int) 0), (PySem.Value.int (0 : Int) 0), (PySem.Value.ref 46), (PySem.Value.bool Bool.false), (PySem.Value.int (181 : Int) 0), (PySem.Value.ref 47), PySem.Value.none, PySem.Value.none, PySem.Value.none, PySem.Value.none, (PySem.Value.int (232 : Int) 0), (PySem.Value.int (11 : Int) 0), (PySem.Value.str (PySem.Str.ofString "/claim/cut.py") 233)]) #[]))
noncomputable abbrev hd.o_89 : PySem.Params → PySem.Obj := (fun (P : PySem.Params) => (PySem.Obj.mk (PySem.Value.type "frame") (Option.none) PySem.Data.plain #[(Option.some (PySem.Value.ref 48)), (Option.some (PySem.Value.ref 3)), (Option.some (PySem.Value.ref 45)), (Option.none), (Option.some (PySem.Value.str (PySem.Str.ofString "cpy313.configparser") 187)), (Option.none), (Option.some (PySem.Value.ref 0))]))
noncomputable abbrev hd.o_90 : PySem.Params → PySem.Obj := (fun (P : PySem.Params) => (PySem.Obj.mk (PySem.Value.type "tuple") (Option.none) (PySem.Data.seq #[] 0) #[]))
noncomputable abbrev hd.o_91 : PySem.Params → PySem.Obj := (fun (P : PySem.Params) => (PySem.Obj.mk PySem.Value.none (Option.none) (PySem.Data.fields #[]) #[]))
noncomputable abbrev hd.o_92 : PySem.Params → PySem.Obj := (fun (P : PySem.Params) => (PySem.Obj.mk (PySem.Value.type "tuple") (Option.none) (PySem.Data.seq #[(PySem.Value.str (PySem.Str.ofString "self") 242), (PySem.Value.str (PySem.Str.ofString "section") 243)] 0) #[]))
noncomputable abbrev hd.o_93 : PySem.Params → PySem.Obj := (fun (P : PySem.Params) => (PySem.Obj.mk (PySem.Value.type "tuple") (Option.none) (PySem.Data.seq #[] 0) #[]))
noncomputable abbrev hd.o_94 : PySem.Params → PySem.Obj := (fun (P : PySem.Params) => (PySem.Obj.mk PySem.Value.none (Option.none) (PySem.Data.func (PySem.FuncData.mk (PySem.Str.ofString "__init__") (PySem.Str.ofString "NoSectionError.__init__") (fP (sIn 2 0)) (PySem.FuncBody.stmts (fB (sIn 2 0))) (fS (sIn 2 0)) 0 ([] : List (Prod PySem.Str Nat)) PySem.Value.none PySem.Value.none PySem.Value.none PySem.Value.none (Option.none) PySem.Value.none PySem.Value.none 0)) #[]))
noncomputable abbrev hd.o_95 : PySem.Params → PySem.Obj := (fun (P : PySem.Params) => (PySem.Obj.mk (PySem.Value.type "code") (Option.none) (PySem.Data.fields #[(PySem.Value.str (PySem.Str.ofString "__init__") 239), (PySem.Value.str (PySem.Str.ofString "NoSectionError.__init__") 240), (PySem.Value.str (PySem.Str.ofString "/claim/cut.py") 241), (PySem.Value.int (13 : Int) 0), (PySem.Value.int (2 : Int) 0), (PySem.Value.int (0 : Int) 0), (PySem.Value.int (0 : Int) 0), (PySem.Value.int (3 : Int) 0), (PySem.Value.ref 50), (PySem.Value.bool Bool.true), (PySem.Value.int (181 : Int) 0), (PySem.Value.ref 51), PySem.Value.none, (PySem.Value.ref 52), (PySem.Value.ref 53), (PySem.Value.ref 54), (PySem.Value.int (244 : Int) 0), (PySem.Value.int (13 : Int) 0), (PySem.Value.str (PySem.Str.ofString "/claim/cut.py") 245)]) #[]))
noncomputable abbrev hd.o_96 : PySem.Params → PySem.Obj := (fun (P : PySem.Params) => (PySem.Obj.mk (PySem.Value.type "function") (Option.none) (PySem.Data.func (PySem.FuncData.mk (PySem.Str.ofString "__init__") (PySem.Str.ofString "NoSectionError.__init__") (fP (sIn 2 0)) (PySem.FuncBody.stmts (fB (sIn 2 0))) (fS (sIn 2 0)) 3 ([] : List (Prod PySem.Str Nat)) PySem.Value.none PySem.Value.none PySem.Value.none (PySem.Value.str (PySem.Str.ofString "cpy313.configparser") 187) (Option.none) (PySem.Value.ref 55) PySem.Value.none 0)) #[]))
noncomputable abbrev hd.o_97 : PySem.Params → PySem.Obj := (fun (P : PySem.Params) => (PySem.Obj.mk (PySem.Value.type "tuple") (Option.none) (PySem.Data.seq #[(PySem.Value.str (PySem.Str.ofString "args") 247), (PySem.Value.str (PySem.Str.ofString "section") 248)] 0) #[]))
noncomputable abbrev hd.o_98 : PySem.Params → PySem.Obj := (fun (P : PySem.Params) => (PySem.Obj.mk (PySem.Value.type "dict") (Option.none) (PySem.Data.dict #[(PySem.DictEntry.mk (PySem.PyData.keyHash P (PySem.Str.ofString "__module__")) (PySem.Value.str (PySem.Str.ofString "__module__") 234) (PySem.Value.str (PySem.Str.ofString "cpy313.configparser") 187)), (PySem.DictEntry.mk (PySem.PyData.keyHash P (PySem.Str.ofString "__firstlineno__")) (PySem.Value.str (PySem.Str.ofString "__firstlineno__") 238) (PySem.Value.int (11 : Int) 237)), (PySem.DictEntry.mk (PySem.PyData.keyHash P (PySem.Str.ofString "__init__")) (PySem.Value.str (PySem.Str.ofString "__init__") 246) (PySem.Value.ref 56)), (PySem.DictEntry.mk (PySem.PyData.keyHash P (PySem.Str.ofString "__static_attributes__")) (PySem.Value.str (PySem.Str.ofString "__static_attributes__") 249) (PySem.Value.ref 57)), (PySem.DictEntry.mk (PySem.PyData.keyHash P (PySem.Str.ofString "__doc__")) (PySem.Value.str (PySem.Str.ofString "__doc__") 250) PySem.Value.none)] 2) #[]))
noncomputable abbrev hd.o_99 : PySem.Params → PySem.Obj := (fun (P : PySem.Params) => (PySem.Obj.mk (PySem.Value.type "type") (Option.none) (PySem.Data.cls (PySem.ClassData.mk (PySem.Str.ofString "NoSectionError") [(PySem.Value.ref 39)] [(PySem.Value.ref 59), (PySem.Value.ref 39), (PySem.Value.type "Exception"), (PySem.Value.type "BaseException"), (PySem.Value.type "object")] 58 (PySem.Str.ofString "NoSectionError") Bool.true ([] : List PySem.Str) ([] : List PySem.Value) Bool.false (Option.none) Bool.false)) #[(Option.some (PySem.Value.ref 43)), (Option.none), (Option.some (PySem.Value.str (PySem.Str.ofString "NoSectionError") 227)), (Option.some (PySem.Value.str (PySem.Str.ofString "NoSectionError") 235)), (Option.some (PySem.Value.builtin "Exception.__new__")), (Option.some (PySem.Value.bool Bool.true))]))
noncomputable abbrev hd.o_100 : PySem.Params → PySem.Obj := (fun (P : PySem.Params) => (PySem.Obj.mk (PySem.Value.type "super") (Option.none) (PySem.Data.fields #[(PySem.Value.ref 59), (PySem.Value.ref 59), (PySem.Value.ref 59)]) #[]))
noncomputable abbrev hd.o_101 : PySem.Params → PySem.Obj := (fun (P : PySem.Params) => (PySem.Obj.mk (PySem.Value.type "builtin_function_or_method") (Option.none) (PySem.Data.fields #[(PySem.Value.builtin "object.__init_subclass__"), (PySem.Value.ref 59)]) #[]))
noncomputable abbrev hd.o_102 : PySem.Params → PySem.Obj := (fun (P : PySem.Params) => (PySem.Obj.mk (PySem.Value.type "dict") (Option.none) (PySem.Data.dict #[(PySem.DictEntry.mk (PySem.PyData.keyHash P (PySem.Str.ofString "__name__")) (PySem.Value.str (PySem.Str.ofString "__name__") 165) (PySem.Value.str (PySem.Str.ofString "cpy313.configparser") 187)), (PySem.DictEntry.mk (PySem.PyData.keyHash P (PySem.Str.ofString "__doc__")) (PySem.Value.str (PySem.Str.ofString "__doc__") 166) PySem.Value.none), (PySem.DictEntry.mk (PySem.PyData.keyHash P (PySem.Str.ofString "__package__")) (PySem.Value.str (PySem.Str.ofString "__package__") 167) PySem.Value.none), (PySem.DictEntry.mk (PySem.PyData.keyHash P (PySem.Str.ofString "__loader__")) (PySem.Value.str (PySem.Str.ofString "__loader__") 168) (PySem.Value.builtin "__main__.__loader__#opaque")), (PySem.DictEntry.mk (PySem.PyData.keyHash P (PySem.Str.ofString "__spec__")) (PySem.Value.str (PySem.Str.ofString "__spec__") 169) PySem.Value.none), (PySem.DictEntry.mk (PySem.PyData.keyHash P (PySem.Str.ofString "__annotations__")) (PySem.Value.str (PySem.Str.ofString "__annotations__") 170) (PySem.Value.ref 6)), (PySem.DictEntry.mk (PySem.PyData.keyHash P (PySem.Str.ofString "__builtins__")) (PySem.Value.str (PySem.Str.ofString "__builtins__") 171) (PySem.Value.ref 4)), (PySem.DictEntry.mk (PySem.PyData.keyHash P (PySem.Str.ofString "__file__")) (PySem.Value.str (PySem.Str.ofString "__file__") 173) (PySem.Value.str (PySem.Str.ofString "/claim/cut.py") 172)), (PySem.DictEntry.mk (PySem.PyData.keyHash P (PySem.Str.ofString "__cached__")) (PySem.Value.str (PySem.Str.ofString "__cached__") 174) PySem.Value.none), (PySem.DictEntry.mk (PySem.PyData.keyHash P (PySem.Str.ofString "Error")) (PySem.Value.str (PySem.Str.ofString "Error") 226) (PySem.Value.ref 39)), (PySem.DictEntry.mk (PySem.PyData.keyHash P (PySem.Str.ofString "NoSectionError")) (PySem.Value.str (PySem.Str.ofString "NoSectionError") 252) (PySem.Value.ref 59)), (PySem.DictEntry.mk (PySem.PyData.keyHash P (PySem.Str.ofString "DuplicateSectionError")) (PySem.Value.str (PySem.Str.ofString "DuplicateSectionError") 284) (PySem.Value.ref 79))] 12) #[]))
noncomputable abbrev hd.o_103 : PySem.Params → PySem.Obj := (fun (P : PySem.Params) => (PySem.Obj.mk PySem.Value.none (Option.none) (PySem.Data.fields #[(PySem.Value.int (2 : Int) 0), (PySem.Value.int (0 : Int) 0), (PySem.Value.ref 20), (PySem.Value.int (11 : Int) 0), (PySem.Value.int (0 : Int) 0), (PySem.Value.ref 48), (PySem.Value.int (17 : Int) 0), (PySem.Value.int (0 : Int) 0), (PySem.Value.ref 67)]) #[]))
noncomputable abbrev hd.o_104 : PySem.Params → PySem.Obj := (fun (P : PySem.Params) => (PySem.Obj.mk (PySem.Value.type "type") (Option.none) (PySem.Data.cls (PySem.ClassData.mk (PySem.Str.ofString "Error") [(PySem.Value.type "Exception")] [(PySem.Value.ref 39), (PySem.Value.type "Exception"), (PySem.Value.type "BaseException"), (PySem.Value.type "object")] 38 (PySem.Str.ofString "Error") Bool.true ([] : List PySem.Str) [(PySem.Value.ref 59), (PySem.Value.ref 79)] Bool.false (Option.none) Bool.false)) #[(Option.some (PySem.Value.ref 15)), (Option.none), (Option.some (PySem.Value.str (PySem.Str.ofString "Error") 189)), (Option.some (PySem.Value.str (PySem.Str.ofString "Error") 197)), (Option.some (PySem.Value.builtin "Exception.__new__")), (Option.some (PySem.Value.bool Bool.true))]))
noncomputable abbrev hd.o_105 : PySem.Params → PySem.Obj := (fun (P : PySem.Params) => (PySem.Obj.mk (PySem.Value.type "tuple") (Option.none) (PySem.Data.seq #[(PySem.Value.ref 39)] 0) #[]))
noncomputable abbrev hd.o_106 : PySem.Params → PySem.Obj := (fun (P : PySem.Params) => (PySem.Obj.mk (PySem.Value.type "builtin_function_or_method") (Option.none) (PySem.Data.fields #[(PySem.Value.builtin "type.__prepare__"), (PySem.Value.type "type")]) #[]))
noncomputable abbrev hd.o_107 : PySem.Params → PySem.Obj := (fun (P : PySem.Params) => (PySem.Obj.mk (PySem.Value.type "dict") (Option.none) (PySem.Data.dict #[(PySem.DictEntry.mk (PySem.PyData.keyHash P (PySem.Str.ofString "__module__")) (PySem.Value.str (PySem.Str.ofString "__module__") 260) (PySem.Value.str (PySem.Str.ofString "cpy313.configparser") 187)), (PySem.DictEntry.mk (PySem.PyData.keyHash P (PySem.Str.ofString "__qualname__")) (PySem.Value.str (PySem.Str.ofString "__qualname__") 262) (PySem.Value.str (PySem.Str.ofString "DuplicateSectionError") 261)), (PySem.DictEntry.mk (PySem.PyData.keyHash P (PySem.Str.ofString "__firstlineno__")) (PySem.Value.str (PySem.Str.ofString "__firstlineno__") 264) (PySem.Value.int (17 : Int) 263)), (PySem.DictEntry.mk (PySem.PyData.keyHash P (PySem.Str.ofString "__init__")) (PySem.Value.str (PySem.Str.ofString "__init__") 276) (PySem.Value.ref 76)), (PySem.DictEntry.mk (PySem.PyData.keyHash P (PySem.Str.ofString "__static_attributes__")) (PySem.Value.str (PySem.Str.ofString "__static_attributes__") 281) (PySem.Value.ref 77))] 5) #[]))
noncomputable abbrev hd.o_108 : PySem.Params → PySem.Obj := (fun (P : PySem.Params) => (PySem.Obj.mk (PySem.Value.type "tuple") (Option.none) (PySem.Data.seq #[] 0) #[]))
noncomputable abbrev hd.o_109 : PySem.Params → PySem.Obj := (fun (P : PySem.Params) => (PySem.Obj.mk PySem.Value.none (Option.none) (PySem.Data.fields #[(PySem.Value.int (19 : Int) 0), (PySem.Value.int (4 : Int) 0), (PySem.Value.ref 75)]) #[]))
noncomputable abbrev hd.o_110 : PySem.Params → PySem.Obj := (fun (P : PySem.Params) => (PySem.Obj.mk (PySem.Value.type "code") (Option.none) (PySem.Data.fields #[(PySem.Value.str (PySem.Str.ofString "DuplicateSectionError") 255), (PySem.Value.str (PySem.Str.ofString "DuplicateSectionError") 256), (PySem.Value.str (PySem.Str.ofString "/claim/cut.py") 257), (PySem.Value.int (17 : Int) 0), (PySem.Value.int (0 : Int) 0), (PySem.Value.int (0 : Int) 0), (PySem.Value.int (0 : Int) 0), (PySem.Value.int (0 : Int) 0), (PySem.Value.ref 65), (PySem.Value.bool Bool.false), (PySem.Value.int (181 : Int) 0), (PySem.Value.ref 66), PySem.Value.none, PySem.Value.none, PySem.Value.none, PySem.Value.none, (PySem.Value.int (258 : Int) 0), (PySem.Value.int (17 : Int) 0), (PySem.Value.str (PySem.Str.ofString "/claim/cut.py") 259)]) #[]))
noncomputable abbrev hd.o_111 : PySem.Params → PySem.Obj := (fun (P : PySem.Params) => (PySem.Obj.mk (PySem.Value.type "frame") (Option.none) PySem.Data.plain #[(Option.some (PySem.Value.ref 67)), (Option.some (PySem.Value.ref 3)), (Option.some (PySem.Value.ref 64)), (Option.none), (Option.some (PySem.Value.str (PySem.Str.ofString "cpy313.configparser") 187)), (Option.none), (Option.some (PySem.Value.ref 0))]))
noncomputable abbrev hd.o_112 : PySem.Params → PySem.Obj := (fun (P : PySem.Params) => (PySem.Obj.mk (PySem.Value.type "tuple") (Option.none) (PySem.Data.seq #[PySem.Value.none, PySem.Value.none] 0) #[]))
noncomputable abbrev hd.o_113 : PySem.Params → PySem.Obj := (fun (P : PySem.Params) => (PySem.Obj.mk (PySem.Value.type "tuple") (Option.none) (PySem.Data.seq #[] 0) #[]))
noncomputable abbrev hd.o_114 : PySem.Params → PySem.Obj := (fun (P : PySem.Params) => (PySem.Obj.mk PySem.Value.none (Option.none) (PySem.Data.fields #[]) #[]))
noncomputable abbrev hd.o_115 : PySem.Params → PySem.Obj := (fun (P : PySem.Params) => (PySem.Obj.mk (PySem.Value.type "tuple") (Option.none) (PySem.Data.seq #[(PySem.Value.str (PySem.Str.ofString "self") 268), (PySem.Value.str (PySem.Str.ofString "section") 269), (PySem.Value.str (PySem.Str.ofString "source") 270), (PySem.Value.str (PySem.Str.ofString "lineno") 271), (PySem.Value.str (PySem.Str.ofString "msg") 272), (PySem.Value.str (PySem.Str.ofString "message") 273)] 0) #[]))
noncomputable abbrev hd.o_116 : PySem.Params → PySem.Obj := (fun (P : PySem.Params) => (PySem.Obj.mk (PySem.Value.type "tuple") (Option.none) (PySem.Data.seq #[] 0) #[]))
noncomputable abbrev hd.o_117 : PySem.Params → PySem.Obj := (fun (P : PySem.Params) => (PySem.Obj.mk PySem.Value.none (Option.none) (PySem.Data.func (PySem.FuncData.mk (PySem.Str.ofString "__init__") (PySem.Str.ofString "DuplicateSectionError.__init__") (fP (sIn 3 0)) (PySem.FuncBody.stmts (fB (sIn 3 0))) (fS (sIn 3 0)) 0 ([] : List (Prod PySem.Str Nat)) PySem.Value.none PySem.Value.none PySem.Value.none PySem.Value.none (Option.none) PySem.Value.none PySem.Value.none 0)) #[]))
noncomputable abbrev hd.o_118 : PySem.Params → PySem.Obj := (fun (P : PySem.Params) => (PySem.Obj.mk (PySem.Value.type "code") (Option.none) (PySem.Data.fields #[(PySem.Value.str (PySem.Str.ofString "__init__") 265), (PySem.Value.str (PySem.Str.ofString "DuplicateSectionError.__init__") 266), (PySem.Value.str (PySem.Str.ofString "/claim/cut.py") 267), (PySem.Value.int (19 : Int) 0), (PySem.Value.int (4 : Int) 0), (PySem.Value.int (0 : Int) 0), (PySem.Value.int (0 : Int) 0), (PySem.Value.int (3 : Int) 0), (PySem.Value.ref 70), (PySem.Value.bool Bool.true), (PySem.Value.int (181 : Int) 0), (PySem.Value.ref 71), PySem.Value.none, (PySem.Value.ref 72), (PySem.Value.ref 73), (PySem.Value.ref 74), (PySem.Value.int (274 : Int) 0), (PySem.Value.int (19 : Int) 0), (PySem.Value.str (PySem.Str.ofString "/claim/cut.py") 275)]) #[]))
noncomputable abbrev hd.o_119 : PySem.Params → PySem.Obj := (fun (P : PySem.Params) => (PySem.Obj.mk (PySem.Value.type "function") (Option.none) (PySem.Data.func (PySem.FuncData.mk (PySem.Str.ofString "__init__") (PySem.Str.ofString "DuplicateSectionError.__init__") (fP (sIn 3 0)) (PySem.FuncBody.stmts (fB (sIn 3 0))) (fS (sIn 3 0)) 3 ([] : List (Prod PySem.Str Nat)) (PySem.Value.ref 69) PySem.Value.none PySem.Value.none (PySem.Value.str (PySem.Str.ofString "cpy313.configparser") 187) (Option.none) (PySem.Value.ref 75) PySem.Value.none 0)) #[]))
noncomputable abbrev hd.o_120 : PySem.Params → PySem.Obj := (fun (P : PySem.Params) => (PySem.Obj.mk (PySem.Value.type "tuple") (Option.none) (PySem.Data.seq #[(PySem.Value.str (PySem.Str.ofString "args") 277), (PySem.Value.str (PySem.Str.ofString "lineno") 278), (PySem.Value.str (PySem.Str.ofString "section") 279), (PySem.Value.str (PySem.Str.ofString "source") 280)] 0) #[]))
noncomputable abbrev hd.o_121 : PySem.Params → PySem.Obj := (fun (P : PySem.Params) => (PySem.Obj.mk (PySem.Value.type "dict") (Option.none) (PySem.Data.dict #[(PySem.DictEntry.mk (PySem.PyData.keyHash P (PySem.Str.ofString "__module__")) (PySem.Value.str (PySem.Str.ofString "__module__") 260) (PySem.Value.str (PySem.Str.ofString "cpy313.configparser") 187)), (PySem.DictEntry.mk (PySem.PyData.keyHash P (PySem.Str.ofString "__firstlineno__")) (PySem.Value.str (PySem.Str.ofString "__firstlineno__") 264) (PySem.Value.int (17 : Int) 263)), (PySem.DictEntry.mk (PySem.PyData.keyHash P (PySem.Str.ofString "__init__")) (PySem.Value.str (PySem.Str.ofString "__init__") 276) (PySem.Value.ref 76)), (PySem.DictEntry.mk (PySem.PyData.keyHash P (PySem.Str.ofString "__static_attributes__")) (PySem.Value.str (PySem.Str.ofString "__static_attributes__") 281) (PySem.Value.ref 77)), (PySem.DictEntry.mk (PySem.PyData.keyHash P (PySem.Str.ofString "__doc__")) (PySem.Value.str (PySem.Str.ofString "__doc__") 282) PySem.Value.none)] 2) #[]))
noncomputable abbrev hd.o_122 : PySem.Params → PySem.Obj := (fun (P : PySem.Params) => (PySem.Obj.mk (PySem.Value.type "type") (Option.none) (PySem.Data.cls (PySem.ClassData.mk (PySem.Str.ofString "DuplicateSectionError") [(PySem.Value.ref 39)] [(PySem.Value.ref 79), (PySem.Value.ref 39), (PySem.Value.type "Exception"), (PySem.Value.type "BaseException"), (PySem.Value.type "object")] 78 (PySem.Str.ofString "DuplicateSectionError") Bool.true ([] : List PySem.Str) ([] : List PySem.Value) Bool.false (Option.none) Bool.false)) #[(Option.some (PySem.Value.ref 62)), (Option.none), (Option.some (PySem.Value.str (PySem.Str.ofString "DuplicateSectionError") 253)), (Option.some (PySem.Value.str (PySem.Str.ofString "DuplicateSectionError") 261)), (Option.some (PySem.Value.builtin "Exception.__new__")), (Option.some (PySem.Value.bool Bool.true))]))
noncomputable abbrev hd.o_123 : PySem.Params → PySem.Obj := (fun (P : PySem.Params) => (PySem.Obj.mk (PySem.Value.type "super") (Option.none) (PySem.Data.fields #[(PySem.Value.ref 79), (PySem.Value.ref 79), (PySem.Value.ref 79)]) #[]))
noncomputable abbrev hd.o_124 : PySem.Params → PySem.Obj := (fun (P : PySem.Params) => (PySem.Obj.mk (PySem.Value.type "builtin_function_or_method") (Option.none) (PySem.Data.fields #[(PySem.Value.builtin "object.__init_subclass__"), (PySem.Value.ref 79)]) #[]))
noncomputable abbrev hd.o_125 : PySem.Params → PySem.Obj := (fun (P : PySem.Params) => (PySem.Obj.mk (PySem.Value.type "dict") (Option.none) (PySem.Data.dict #[(PySem.DictEntry.mk (PySem.PyData.keyHash P (PySem.Str.ofString "__name__")) (PySem.Value.str (PySem.Str.ofString "__name__") 165) (PySem.Value.str (PySem.Str.ofString "cpy313.configparser") 187)), (PySem.DictEntry.mk (PySem.PyData.keyHash P (PySem.Str.ofString "__doc__")) (PySem.Value.str (PySem.Str.ofString "__doc__") 166) PySem.Value.none), (PySem.DictEntry.mk (PySem.PyData.keyHash P (PySem.Str.ofString "__package__")) (PySem.Value.str (PySem.Str.ofString "__package__") 167) PySem.Value.none), (PySem.DictEntry.mk (PySem.PyData.keyHash P (PySem.Str.ofString "__loader__")) (PySem.Value.str (PySem.Str.ofString "__loader__") 168) (PySem.Value.builtin "__main__.__loader__#opaque")), (PySem.DictEntry.mk (PySem.PyData.keyHash P (PySem.Str.ofString "__spec__")) (PySem.Value.str (PySem.Str.ofString "__spec__") 169) PySem.Value.none), (PySem.DictEntry.mk (PySem.PyData.keyHash P (PySem.Str.ofString "__annotations__")) (PySem.Value.str (PySem.Str.ofString "__annotations__") 170) (PySem.Value.ref 6)), (PySem.DictEntry.mk (PySem.PyData.keyHash P (PySem.Str.ofString "__builtins__")) (PySem.Value.str (PySem.Str.ofString "__builtins__") 171) (PySem.Value.ref 4)), (PySem.DictEntry.mk (PySem.PyData.keyHash P (PySem.Str.ofString "__file__")) (PySem.Value.str (PySem.Str.ofString "__file__") 173) (PySem.Value.str (PySem.Str.ofString "/claim/cut.py") 172)), (PySem.DictEntry.mk (PySem.PyData.keyHash P (PySem.Str.ofString "__cached__")) (PySem.Value.str (PySem.Str.ofString "__cached__") 174) PySem.Value.none), (PySem.DictEntry.mk (PySem.PyData.keyHash P (PySem.Str.ofString "Error")) (PySem.Value.str (PySem.Str.ofString "Error") 226) (PySem.Value.ref 39)), (PySem.DictEntry.mk (PySem.PyData.keyHash P (PySem.Str.ofString "NoSectionError")) (PySem.Value.str (PySem.Str.ofString "NoSectionError") 252) (PySem.Value.ref 59)), (PySem.DictEntry.mk (PySem.PyData.keyHash P (PySem.Str.ofString "DuplicateSectionError")) (PySem.Value.str (PySem.Str.ofString "DuplicateSectionError") 284) (PySem.Value.ref 79)), (PySem.DictEntry.mk (PySem.PyData.keyHash P (PySem.Str.ofString "DuplicateOptionError")) (PySem.Value.str (PySem.Str.ofString "DuplicateOptionError") 318) (PySem.Value.ref 99))] 13) #[]))
noncomputable abbrev hd.o_126 : PySem.Params → PySem.Obj := (fun (P : PySem.Params) => (PySem.Obj.mk PySem.Value.none (Option.none) (PySem.Data.fields #[(PySem.Value.int (2 : Int) 0), (PySem.Value.int (0 : Int) 0), (PySem.Value.ref 20), (PySem.Value.int (11 : Int) 0), (PySem.Value.int (0 : Int) 0), (PySem.Value.ref 48), (PySem.Value.int (17 : Int) 0), (PySem.Value.int (0 : Int) 0), (PySem.Value.ref 67), (PySem.Value.int (35 : Int) 0), (PySem.Value.int (0 : Int) 0), (PySem.Value.ref 87)]) #[]))
noncomputable abbrev hd.o_127 : PySem.Params → PySem.Obj := (fun (P : PySem.Params) => (PySem.Obj.mk (PySem.Value.type "type") (Option.none) (PySem.Data.cls (PySem.ClassData.mk (PySem.Str.ofString "Error") [(PySem.Value.type "Exception")] [(PySem.Value.ref 39), (PySem.Value.type "Exception"), (PySem.Value.type "BaseException"), (PySem.Value.type "object")] 38 (PySem.Str.ofString "Error") Bool.true ([] : List PySem.Str) [(PySem.Value.ref 59), (PySem.Value.ref 79), (PySem.Value.ref 99)] Bool.false (Option.none) Bool.false)) #[(Option.some (PySem.Value.ref 15)), (Option.none), (Option.some (PySem.Value.str (PySem.Str.ofString "Error") 189)), (Option.some (PySem.Value.str (PySem.Str.ofString "Error") 197)), (Option.some (PySem.Value.builtin "Exception.__new__")), (Option.some (PySem.Value.bool Bool.true))]))
noncomputable abbrev hd.o_128 : PySem.Params → PySem.Obj := (fun (P : PySem.Params) => (PySem.Obj.mk (PySem.Value.type "tuple") (Option.none) (PySem.Data.seq #[(PySem.Value.ref 39)] 0) #[]))
noncomputable abbrev hd.o_129 : PySem.Params → PySem.Obj := (fun (P : PySem.Params) => (PySem.Obj.mk (PySem.Value.type "builtin_function_or_method") (Option.none) (PySem.Data.fields #[(PySem.Value.builtin "type.__prepare__"), (PySem.Value.type "type")]) #[]))
noncomputable abbrev hd.o_130 : PySem.Params → PySem.Obj := (fun (P : PySem.Params) => (PySem.Obj.mk (PySem.Value.type "dict") (Option.none) (PySem.Data.dict #[(PySem.DictEntry.mk (PySem.PyData.keyHash P (PySem.Str.ofString "__module__")) (PySem.Value.str (PySem.Str.ofString "__module__") 292) (PySem.Value.str (PySem.Str.ofString "cpy313.configparser") 187)), (PySem.DictEntry.mk (PySem.PyData.keyHash P (PySem.Str.ofString "__qualname__")) (PySem.Value.str (PySem.Str.ofString "__qualname__") 294) (PySem.Value.str (PySem.Str.ofString "DuplicateOptionError") 293)), (PySem.DictEntry.mk (PySem.PyData.keyHash P (PySem.Str.ofString "__firstlineno__")) (PySem.Value.str (PySem.Str.ofString "__firstlineno__") 296) (PySem.Value.int (35 : Int) 295)), (PySem.DictEntry.mk (PySem.PyData.keyHash P (PySem.Str.ofString "__init__")) (PySem.Value.str (PySem.Str.ofString "__init__") 309) (PySem.Value.ref 96)), (PySem.DictEntry.mk (PySem.PyData.keyHash P (PySem.Str.ofString "__static_attributes__")) (PySem.Value.str (PySem.Str.ofString "__static_attributes__") 315) (PySem.Value.ref 97))] 5) #[]))
noncomputable abbrev hd.o_131 : PySem.Params → PySem.Obj := (fun (P : PySem.Params) => (PySem.Obj.mk (PySem.Value.type "tuple") (Option.none) (PySem.Data.seq #[] 0) #[]))
noncomputable abbrev hd.o_132 : PySem.Params → PySem.Obj := (fun (P : PySem.Params) => (PySem.Obj.mk PySem.Value.none (Option.none) (PySem.Data.fields #[(PySem.Value.int (37 : Int) 0), (PySem.Value.int (4 : Int) 0), (PySem.Value.ref 95)]) #[]))
noncomputable abbrev hd.o_133 : PySem.Params → PySem.Obj := (fun (P : PySem.Params) => (PySem.Obj.mk (PySem.Value.type "code") (Option.none) (PySem.Data.fields #[(PySem.Value.str (PySem.Str.ofString "DuplicateOptionError") 287), (PySem.Value.str (PySem.Str.ofString "DuplicateOptionError") 288), (PySem.Value.str (PySem.Str.ofString "/claim/cut.py") 289), (PySem.Value.int (35 : Int) 0), (PySem.Value.int (0 : Int) 0), (PySem.Value.int (0 : Int) 0), (PySem.Value.int (0 : Int) 0), (PySem.Value.int (0 : Int) 0), (PySem.Value.ref 85), (PySem.Value.bool Bool.false), (PySem.Value.int (181 : Int) 0), (PySem.Value.ref 86), PySem.Value.none, PySem.Value.none, PySem.Value.none, PySem.Value.none, (PySem.Value.int (290 : Int) 0), (PySem.Value.int (35 : Int) 0), (PySem.Value.str (PySem.Str.ofString "/claim/cut.py") 291)]) #[]))
noncomputable abbrev hd.o_134 : PySem.Params → PySem.Obj := (fun (P : PySem.Params) => (PySem.Obj.mk (PySem.Value.type "frame") (Option.none) PySem.Data.plain #[(Option.some (PySem.Value.ref 87)), (Option.some (PySem.Value.ref 3)), (Option.some (PySem.Value.ref 84)), (Option.none), (Option.some (PySem.Value.str (PySem.Str.ofString "cpy313.configparser") 187)), (Option.none), (Option.some (PySem.Value.ref 0))]))
noncomputable abbrev hd.o_135 : PySem.Params → PySem.Obj := (fun (P : PySem.Params) => (PySem.Obj.mk (PySem.Value.type "tuple") (Option.none) (PySem.Data.seq #[PySem.Value.none, PySem.Value.none] 0) #[]))
noncomputable abbrev hd.o_136 : PySem.Params → PySem.Obj := (fun (P : PySem.Params) => (PySem.Obj.mk (PySem.Value.type "tuple") (Option.none) (PySem.Data.seq #[] 0) #[]))
noncomputable abbrev hd.o_137 : PySem.Params → PySem.Obj := (fun (P : PySem.Params) => (PySem.Obj.mk PySem.Value.none (Option.none) (PySem.Data.fields #[]) #[]))
noncomputable abbrev hd.o_138 : PySem.Params → PySem.Obj := (fun (P : PySem.Params) => (PySem.Obj.mk (PySem.Value.type "tuple") (Option.none) (PySem.Data.seq #[(PySem.Value.str (PySem.Str.ofString "self") 300), (PySem.Value.str (PySem.Str.ofString "section") 301), (PySem.Value.str (PySem.Str.ofString "option") 302), (PySem.Value.str (PySem.Str.ofString "source") 303), (PySem.Value.str (PySem.Str.ofString "lineno") 304), (PySem.Value.str (PySem.Str.ofString "msg") 305), (PySem.Value.str (PySem.Str.ofString "message") 306)] 0) #[]))
noncomputable abbrev hd.o_139 : PySem.Params → PySem.Obj := (fun (P : PySem.Params) => (PySem.Obj.mk (PySem.Value.type "tuple") (Option.none) (PySem.Data.seq #[] 0) #[]))
noncomputable abbrev hd.o_140 : PySem.Params → PySem.Obj := (fun (P : PySem.Params) => (PySem.Obj.mk PySem.Value.none (Option.none) (PySem.Data.func (PySem.FuncData.mk (PySem.Str.ofString "__init__") (PySem.Str.ofString "DuplicateOptionError.__init__") (fP (sIn 4 0)) (PySem.FuncBody.stmts (fB (sIn 4 0))) (fS (sIn 4 0)) 0 ([] : List (Prod PySem.Str Nat)) PySem.Value.none PySem.Value.none PySem.Value.none PySem.Value.none (Option.none) PySem.Value.none PySem.Value.none 0)) #[]))
noncomputable abbrev hd.o_141 : PySem.Params → PySem.Obj := (fun (P : PySem.Params) => (PySem.Obj.mk (PySem.Value.type "code") (Option.none) (PySem.Data.fields #[(PySem.Value.str (PySem.Str.ofString "__init__") 297), (PySem.Value.str (PySem.Str.ofString "DuplicateOptionError.__init__") 298), (PySem.Value.str (PySem.Str.ofString "/claim/cut.py") 299), (PySem.Value.int (37 : Int) 0), (PySem.Value.int (5 : Int) 0), (PySem.Value.int (0 : Int) 0), (PySem.Value.int (0 : Int) 0), (PySem.Value.int (3 : Int) 0), (PySem.Value.ref 90), (PySem.Value.bool Bool.true), (PySem.Value.int (181 : Int) 0), (PySem.Value.ref 91), PySem.Value.none, (PySem.Value.ref 92), (PySem.Value.ref 93), (PySem.Value.ref 94), (PySem.Value.int (307 : Int) 0), (PySem.Value.int (37 : Int) 0), (PySem.Value.str (PySem.Str.ofString "/claim/cut.py") 308)]) #[]))
noncomputable abbrev hd.o_142 : PySem.Params → PySem.Obj := (fun (P : PySem.Params) => (PySem.Obj.mk (PySem.Value.type "function") (Option.none) (PySem.Data.func (PySem.FuncData.mk (PySem.Str.ofString "__init__") (PySem.Str.ofString "DuplicateOptionError.__init__") (fP (sIn 4 0)) (PySem.FuncBody.stmts (fB (sIn 4 0))) (fS (sIn 4 0)) 3 ([] : List (Prod PySem.Str Nat)) (PySem.Value.ref 89) PySem.Value.none PySem.Value.none (PySem.Value.str (PySem.Str.ofString "cpy313.configparser") 187) (Option.none) (PySem.Value.ref 95) PySem.Value.none 0)) #[]))
noncomputable abbrev hd.o_143 : PySem.Params → PySem.Obj := (fun (P : PySem.Params) => (PySem.Obj.mk (PySem.Value.type "tuple") (Option.none) (PySem.Data.seq #[(PySem.Value.str (PySem.Str.ofString "args") 310), (PySem.Value.str (PySem.Str.ofString "lineno") 311), (PySem.Value.str (PySem.Str.ofString "option") 312), (PySem.Value.str (PySem.Str.ofString "section") 313), (PySem.Value.str (PySem.Str.ofString "source") 314)] 0) #[]))
noncomputable abbrev hd.o_144 : PySem.Params → PySem.Obj := (fun (P : PySem.Params) => (PySem.Obj.mk (PySem.Value.type "dict") (Option.none) (PySem.Data.dict #[(PySem.DictEntry.mk (PySem.PyData.keyHash P (PySem.Str.ofString "__module__")) (PySem.Value.str (PySem.Str.ofString "__module__") 292) (PySem.Value.str (PySem.Str.ofString "cpy313.configparser") 187)), (PySem.DictEntry.mk (PySem.PyData.keyHash P (PySem.Str.ofString "__firstlineno__")) (PySem.Value.str (PySem.Str.ofString "__firstlineno__") 296) (PySem.Value.int (35 : Int) 295)), (PySem.DictEntry.mk (PySem.PyData.keyHash P (PySem.Str.ofString "__init__")) (PySem.Value.str (PySem.Str.ofString "__init__") 309) (PySem.Value.ref 96)), (PySem.DictEntry.mk (PySem.PyData.keyHash P (PySem.Str.ofString "__static_attributes__")) (PySem.Value.str (PySem.Str.ofString "__static_attributes__") 315) (PySem.Value.ref 97)), (PySem.DictEntry.mk (PySem.PyData.keyHash P (PySem.Str.ofString "__doc__")) (PySem.Value.str (PySem.Str.ofString "__doc__") 316) PySem.Value.none)] 2) #[]))
noncomputable abbrev hd.o_145 : PySem.Params → PySem.Obj := (fun (P : PySem.Params) => (PySem.Obj.mk (PySem.Value.type "type") (Option.none) (PySem.Data.cls (PySem.ClassData.mk (PySem.Str.ofString "DuplicateOptionError") [(PySem.Value.ref 39)] [(PySem.Value.ref 99), (PySem.Value.ref 39), (PySem.Value.type "Exception"), (PySem.Value.type "BaseException"), (PySem.Value.type "object")] 98 (PySem.Str.ofString "DuplicateOptionError") Bool.true ([] : List PySem.Str) ([] : List PySem.Value) Bool.false (Option.none) Bool.false)) #[(Option.some (PySem.Value.ref 82)), (Option.none), (Option.some (PySem.Value.str (PySem.Str.ofString "DuplicateOptionError") 285)), (Option.some (PySem.Value.str (PySem.Str.ofString "DuplicateOptionError") 293)), (Option.some (PySem.Value.builtin "Exception.__new__")), (Option.some (PySem.Value.bool Bool.true))]))
noncomputable abbrev hd.o_146 : PySem.Params → PySem.Obj := (fun (P : PySem.Params) => (PySem.Obj.mk (PySem.Value.type "super") (Option.none) (PySem.Data.fields #[(PySem.Value.ref 99), (PySem.Value.ref 99), (PySem.Value.ref 99)]) #[]))
noncomputable abbrev hd.o_147 : PySem.Params → PySem.Obj := (fun (P : PySem.Params) => (PySem.Obj.mk (PySem.Value.type "builtin_function_or_method") (Option.none) (PySem.Data.fields #[(PySem.Value.builtin "object.__init_subclass__"), (PySem.Value.ref 99)]) #[]))
noncomputable abbrev hd.o_148 : PySem.Params → PySem.Obj := (fun (P : PySem.Params) => (PySem.Obj.mk (PySem.Value.type "dict") (Option.none) (PySem.Data.dict #[(PySem.DictEntry.mk (PySem.PyData.keyHash P (PySem.Str.ofString "__name__")) (PySem.Value.str (PySem.Str.ofString "__name__") 165) (PySem.Value.str (PySem.Str.ofString "law_dv0002_01") 347)), (PySem.DictEntry.mk (PySem.PyData.keyHash P (PySem.Str.ofString "__doc__")) (PySem.Value.str (PySem.Str.ofString "__doc__") 166) PySem.Value.none), (PySem.DictEntry.mk (PySem.PyData.keyHash P (PySem.Str.ofString "__package__")) (PySem.Value.str (PySem.Str.ofString "__package__") 167) PySem.Value.none), (PySem.DictEntry.mk (PySem.PyData.keyHash P (PySem.Str.ofString "__loader__")) (PySem.Value.str (PySem.Str.ofString "__loader__") 168) (PySem.Value.builtin "__main__.__loader__#opaque")), (PySem.DictEntry.mk (PySem.PyData.keyHash P (PySem.Str.ofString "__spec__")) (PySem.Value.str (PySem.Str.ofString "__spec__") 169) PySem.Value.none), (PySem.DictEntry.mk (PySem.PyData.keyHash P (PySem.Str.ofString "__annotations__")) (PySem.Value.str (PySem.Str.ofString "__annotations__") 170) (PySem.Value.ref 6)), (PySem.DictEntry.mk (PySem.PyData.keyHash P (PySem.Str.ofString "__builtins__")) (PySem.Value.str (PySem.Str.ofString "__builtins__") 171) (PySem.Value.ref 4)), (PySem.DictEntry.mk (PySem.PyData.keyHash P (PySem.Str.ofString "__file__")) (PySem.Value.str (PySem.Str.ofString "__file__") 173) (PySem.Value.str (PySem.Str.ofString "/claim/cut.py") 172)), (PySem.DictEntry.mk (PySem.PyData.keyHash P (PySem.Str.ofString "__cached__")) (PySem.Value.str (PySem.Str.ofString "__cached__") 174) PySem.Value.none), (PySem.DictEntry.mk (PySem.PyData.keyHash P (PySem.Str.ofString "Error")) (PySem.Value.str (PySem.Str.ofString "Error") 226) (PySem.Value.ref 39)), (PySem.DictEntry.mk (PySem.PyData.keyHash P (PySem.Str.ofString "NoSectionError")) (PySem.Value.str (PySem.Str.ofString "NoSectionError") 252) (PySem.Value.ref 59)), (PySem.DictEntry.mk (PySem.PyData.keyHash P (PySem.Str.ofString "DuplicateSectionError")) (PySem.Value.str (PySem.Str.ofString "DuplicateSectionError") 284) (PySem.Value.ref 79)), (PySem.DictEntry.mk (PySem.PyData.keyHash P (PySem.Str.ofString "DuplicateOptionError")) (PySem.Value.str (PySem.Str.ofString "DuplicateOptionError") 318) (PySem.Value.ref 99)), (PySem.DictEntry.mk (PySem.PyData.keyHash P (PySem.Str.ofString "NoOptionError")) (PySem.Value.str (PySem.Str.ofString "NoOptionError") 346) (PySem.Value.ref 118)), (PySem.DictEntry.mk (PySem.PyData.keyHash P (PySem.Str.ofString "_law_read")) (PySem.Value.str (PySem.Str.ofString "_law_read") 361) (PySem.Value.ref 127)), (PySem.DictEntry.mk (PySem.PyData.keyHash P (PySem.Str.ofString "_law_place")) (PySem.Value.str (PySem.Str.ofString "_law_place") 369) (PySem.Value.ref 134)), (PySem.DictEntry.mk (PySem.PyData.keyHash P (PySem.Str.ofString "_law_fault")) (PySem.Value.str (PySem.Str.ofString "_law_fault") 375) (PySem.Value.ref 139)), (PySem.DictEntry.mk (PySem.PyData.keyHash P (PySem.Str.ofString "_law_quoted")) (PySem.Value.str (PySem.Str.ofString "_law_quoted") 382) (PySem.Value.ref 146))] 18) #[]))
noncomputable abbrev hd.o_149 : PySem.Params → PySem.Obj := (fun (P : PySem.Params) => (PySem.Obj.mk PySem.Value.none (Option.none) (PySem.Data.fields #[(PySem.Value.int (2 : Int) 0), (PySem.Value.int (0 : Int) 0), (PySem.Value.ref 20), (PySem.Value.int (11 : Int) 0), (PySem.Value.int (0 : Int) 0), (PySem.Value.ref 48), (PySem.Value.int (17 : Int) 0), (PySem.Value.int (0 : Int) 0), (PySem.Value.ref 67), (PySem.Value.int (35 : Int) 0), (PySem.Value.int (0 : Int) 0), (PySem.Value.ref 87), (PySem.Value.int (54 : Int) 0), (PySem.Value.int (0 : Int) 0), (PySem.Value.ref 107), (PySem.Value.int (62 : Int) 0), (PySem.Value.int (0 : Int) 0), (PySem.Value.ref 126), (PySem.Value.int (80 : Int) 0), (PySem.Value.int (0 : Int) 0), (PySem.Value.ref 133), (PySem.Value.int (83 : Int) 0), (PySem.Value.int (0 : Int) 0), (PySem.Value.ref 138), (PySem.Value.int (97 : Int) 0), (PySem.Value.int (0 : Int) 0), (PySem.Value.ref 145)]) #[]))
noncomputable abbrev hd.o_150 : PySem.Params → PySem.Obj := (fun (P : PySem.Params) => (PySem.Obj.mk (PySem.Value.type "type") (Option.none) (PySem.Data.cls (PySem.ClassData.mk (PySem.Str.ofString "Error") [(PySem.Value.type "Exception")] [(PySem.Value.ref 39), (PySem.Value.type "Exception"), (PySem.Value.type "BaseException"), (PySem.Value.type "object")] 38 (PySem.Str.ofString "Error") Bool.true ([] : List PySem.Str) [(PySem.Value.ref 59), (PySem.Value.ref 79), (PySem.Value.ref 99), (PySem.Value.ref 118)] Bool.false (Option.none) Bool.false)) #[(Option.some (PySem.Value.ref 15)), (Option.none), (Option.some (PySem.Value.str (PySem.Str.ofString "Error") 189)), (Option.some (PySem.Value.str (PySem.Str.ofString "Error") 197)), (Option.some (PySem.Value.builtin "Exception.__new__")), (Option.some (PySem.Value.bool Bool.true))]))
noncomputable abbrev hd.o_151 : PySem.Params → PySem.Obj := (fun (P : PySem.Params) => (PySem.Obj.mk (PySem.Value.type "tuple") (Option.none) (PySem.Data.seq #[(PySem.Value.ref 39)] 0) #[]))
noncomputable abbrev hd.o_152 : PySem.Params → PySem.Obj := (fun (P : PySem.Params) => (PySem.Obj.mk (PySem.Value.type "builtin_function_or_method") (Option.none) (PySem.Data.fields #[(PySem.Value.builtin "type.__prepare__"), (PySem.Value.type "type")]) #[]))
noncomputable abbrev hd.o_153 : PySem.Params → PySem.Obj := (fun (P : PySem.Params) => (PySem.Obj.mk (PySem.Value.type "dict") (Option.none) (PySem.Data.dict #[(PySem.DictEntry.mk (PySem.PyData.keyHash P (PySem.Str.ofString "__module__")) (PySem.Value.str (PySem.Str.ofString "__module__") 326) (PySem.Value.str (PySem.Str.ofString "cpy313.configparser") 187)), (PySem.DictEntry.mk (PySem.PyData.keyHash P (PySem.Str.ofString "__qualname__")) (PySem.Value.str (PySem.Str.ofString "__qualname__") 328) (PySem.Value.str (PySem.Str.ofString "NoOptionError") 327)), (PySem.DictEntry.mk (PySem.PyData.keyHash P (PySem.Str.ofString "__firstlineno__")) (PySem.Value.str (PySem.Str.ofString "__firstlineno__") 330) (PySem.Value.int (54 : Int) 329)), (PySem.DictEntry.mk (PySem.PyData.keyHash P (PySem.Str.ofString "__init__")) (PySem.Value.str (PySem.Str.ofString "__init__") 339) (PySem.Value.ref 115)), (PySem.DictEntry.mk (PySem.PyData.keyHash P (PySem.Str.ofString "__static_attributes__")) (PySem.Value.str (PySem.Str.ofString "__static_attributes__") 343) (PySem.Value.ref 116))] 5) #[]))
noncomputable abbrev hd.o_154 : PySem.Params → PySem.Obj := (fun (P : PySem.Params) => (PySem.Obj.mk (PySem.Value.type "tuple") (Option.none) (PySem.Data.seq #[] 0) #[]))
noncomputable abbrev hd.o_155 : PySem.Params → PySem.Obj := (fun (P : PySem.Params) => (PySem.Obj.mk PySem.Value.none (Option.none) (PySem.Data.fields #[(PySem.Value.int (56 : Int) 0), (PySem.Value.int (4 : Int) 0), (PySem.Value.ref 114)]) #[]))
noncomputable abbrev hd.o_156 : PySem.Params → PySem.Obj := (fun (P : PySem.Params) => (PySem.Obj.mk (PySem.Value.type "code") (Option.none) (PySem.Data.fields #[(PySem.Value.str (PySem.Str.ofString "NoOptionError") 321), (PySem.Value.str (PySem.Str.ofString "NoOptionError") 322), (PySem.Value.str (PySem.Str.ofString "/claim/cut.py") 323), (PySem.Value.int (54 : Int) 0), (PySem.Value.int (0 : Int) 0), (PySem.Value.int (0 : Int) 0), (PySem.Value.int (0 : Int) 0), (PySem.Value.int (0 : Int) 0), (PySem.Value.ref 105), (PySem.Value.bool Bool.false), (PySem.Value.int (181 : Int) 0), (PySem.Value.ref 106), PySem.Value.none, PySem.Value.none, PySem.Value.none, PySem.Value.none, (PySem.Value.int (324 : Int) 0), (PySem.Value.int (54 : Int) 0), (PySem.Value.str (PySem.Str.ofString "/claim/cut.py") 325)]) #[]))
noncomputable abbrev hd.o_157 : PySem.Params → PySem.Obj := (fun (P : PySem.Params) => (PySem.Obj.mk (PySem.Value.type "frame") (Option.none) PySem.Data.plain #[(Option.some (PySem.Value.ref 107)), (Option.some (PySem.Value.ref 3)), (Option.some (PySem.Value.ref 104)), (Option.none), (Option.some (PySem.Value.str (PySem.Str.ofString "cpy313.configparser") 187)), (Option.none), (Option.some (PySem.Value.ref 0))]))
noncomputable abbrev hd.o_158 : PySem.Params → PySem.Obj := (fun (P : PySem.Params) => (PySem.Obj.mk (PySem.Value.type "tuple") (Option.none) (PySem.Data.seq #[] 0) #[]))
noncomputable abbrev hd.o_159 : PySem.Params → PySem.Obj := (fun (P : PySem.Params) => (PySem.Obj.mk PySem.Value.none (Option.none) (PySem.Data.fields #[]) #[]))
noncomputable abbrev hd.o_160 : PySem.Params → PySem.Obj := (fun (P : PySem.Params) => (PySem.Obj.mk (PySem.Value.type "tuple") (Option.none) (PySem.Data.seq #[(PySem.Value.str (PySem.Str.ofString "self") 334), (PySem.Value.str (PySem.Str.ofString "option") 335), (PySem.Value.str (PySem.Str.ofString "section") 336)] 0) #[]))
noncomputable abbrev hd.o_161 : PySem.Params → PySem.Obj := (fun (P : PySem.Params) => (PySem.Obj.mk (PySem.Value.type "tuple") (Option.none) (PySem.Data.seq #[] 0) #[]))
noncomputable abbrev hd.o_162 : PySem.Params → PySem.Obj := (fun (P : PySem.Params) => (PySem.Obj.mk PySem.Value.none (Option.none) (PySem.Data.func (PySem.FuncData.mk (PySem.Str.ofString "__init__") (PySem.Str.ofString "NoOptionError.__init__") (fP (sIn 5 0)) (PySem.FuncBody.stmts (fB (sIn 5 0))) (fS (sIn 5 0)) 0 ([] : List (Prod PySem.Str Nat)) PySem.Value.none PySem.Value.none PySem.Value.none PySem.Value.none (Option.none) PySem.Value.none PySem.Value.none 0)) #[]))
noncomputable abbrev hd.o_163 : PySem.Params → PySem.Obj := (fun (P : PySem.Params) => (PySem.Obj.mk (PySem.Value.type "code") (Option.none) (PySem.Data.fields #[(PySem.Value.str (PySem.Str.ofString "__init__") 331), (PySem.Value.str (PySem.Str.ofString "NoOptionError.__init__") 332), (PySem.Value.str (PySem.Str.ofString "/claim/cut.py") 333), (PySem.Value.int (56 : Int) 0), (PySem.Value.int (3 : Int) 0), (PySem.Value.int (0 : Int) 0), (PySem.Value.int (0 : Int) 0), (PySem.Value.int (3 : Int) 0), (PySem.Value.ref 109), (PySem.Value.bool Bool.true), (PySem.Value.int (181 : Int) 0), (PySem.Value.ref 110), PySem.Value.none, (PySem.Value.ref 111), (PySem.Value.ref 112), (PySem.Value.ref 113), (PySem.Value.int (337 : Int) 0), (PySem.Value.int (56 : Int) 0), (PySem.Value.str (PySem.Str.ofString "/claim/cut.py") 338)]) #[]))
noncomputable abbrev hd.o_164 : PySem.Params → PySem.Obj := (fun (P : PySem.Params) => (PySem.Obj.mk (PySem.Value.type "function") (Option.none) (PySem.Data.func (PySem.FuncData.mk (PySem.Str.ofString "__init__") (PySem.Str.ofString "NoOptionError.__init__") (fP (sIn 5 0)) (PySem.FuncBody.stmts (fB (sIn 5 0))) (fS (sIn 5 0)) 3 ([] : List (Prod PySem.Str Nat)) PySem.Value.none PySem.Value.none PySem.Value.none (PySem.Value.str (PySem.Str.ofString "cpy313.configparser") 187) (Option.none) (PySem.Value.ref 114) PySem.Value.none 0)) #[]))
noncomputable abbrev hd.o_165 : PySem.Params → PySem.Obj := (fun (P : PySem.Params) => (PySem.Obj.mk (PySem.Value.type "tuple") (Option.none) (PySem.Data.seq #[(PySem.Value.str (PySem.Str.ofString "args") 340), (PySem.Value.str (PySem.Str.ofString "option") 341), (PySem.Value.str (PySem.Str.ofString "section") 342)] 0) #[]))
noncomputable abbrev hd.o_166 : PySem.Params → PySem.Obj := (fun (P : PySem.Params) => (PySem.Obj.mk (PySem.Value.type "dict") (Option.none) (PySem.Data.dict #[(PySem.DictEntry.mk (PySem.PyData.keyHash P (PySem.Str.ofString "__module__")) (PySem.Value.str (PySem.Str.ofString "__module__") 326) (PySem.Value.str (PySem.Str.ofString "cpy313.configparser") 187)), (PySem.DictEntry.mk (PySem.PyData.keyHash P (PySem.Str.ofString "__firstlineno__")) (PySem.Value.str (PySem.Str.ofString "__firstlineno__") 330) (PySem.Value.int (54 : Int) 329)), (PySem.DictEntry.mk (PySem.PyData.keyHash P (PySem.Str.ofString "__init__")) (PySem.Value.str (PySem.Str.ofString "__init__") 339) (PySem.Value.ref 115)), (PySem.DictEntry.mk (PySem.PyData.keyHash P (PySem.Str.ofString "__static_attributes__")) (PySem.Value.str (PySem.Str.ofString "__static_attributes__") 343) (PySem.Value.ref 116)), (PySem.DictEntry.mk (PySem.PyData.keyHash P (PySem.Str.ofString "__doc__")) (PySem.Value.str (PySem.Str.ofString "__doc__") 344) PySem.Value.none)] 2) #[]))
noncomputable abbrev hd.o_167 : PySem.Params → PySem.Obj := (fun (P : PySem.Params) => (PySem.Obj.mk (PySem.Value.type "type") (Option.none) (PySem.Data.cls (PySem.ClassData.mk (PySem.Str.ofString "NoOptionError") [(PySem.Value.ref 39)] [(PySem.Value.ref 118), (PySem.Value.ref 39), (PySem.Value.type "Exception"), (PySem.Value.type "BaseException"), (PySem.Value.type "object")] 117 (PySem.Str.ofString "NoOptionError") Bool.true ([] : List PySem.Str) ([] : List PySem.Value) Bool.false (Option.none) Bool.false)) #[(Option.some (PySem.Value.ref 102)), (Option.none), (Option.some (PySem.Value.str (PySem.Str.ofString "NoOptionError") 319)), (Option.some (PySem.Value.str (PySem.Str.ofString "NoOptionError") 327)), (Option.some (PySem.Value.builtin "Exception.__new__")), (Option.some (PySem.Value.bool Bool.true))]))
noncomputable abbrev hd.o_168 : PySem.Params → PySem.Obj := (fun (P : PySem.Params) => (PySem.Obj.mk (PySem.Value.type "super") (Option.none) (PySem.Data.fields #[(PySem.Value.ref 118), (PySem.Value.ref 118), (PySem.Value.ref 118)]) #[]))
noncomputable abbrev hd.o_169 : PySem.Params → PySem.Obj := (fun (P : PySem.Params) => (PySem.Obj.mk (PySem.Value.type "builtin_function_or_method") (Option.none) (PySem.Data.fields #[(PySem.Value.builtin "object.__init_subclass__"), (PySem.Value.ref 118)]) #[]))
noncomputable abbrev hd.o_170 : PySem.Params → PySem.Obj := (fun (P : PySem.Params) => (PySem.Obj.mk (PySem.Value.type "tuple") (Option.none) (PySem.Data.seq #[] 0) #[]))
noncomputable abbrev hd.o_171 : PySem.Params → PySem.Obj := (fun (P : PySem.Params) => (PySem.Obj.mk PySem.Value.none (Option.none) (PySem.Data.fields #[]) #[]))
noncomputable abbrev hd.o_172 : PySem.Params → PySem.Obj := (fun (P : PySem.Params) => (PySem.Obj.mk (PySem.Value.type "tuple") (Option.none) (PySem.Data.seq #[(PySem.Value.str (PySem.Str.ofString "rows") 352), (PySem.Value.str (PySem.Str.ofString "seen") 353), (PySem.Value.str (PySem.Str.ofString "name") 354), (PySem.Value.str (PySem.Str.ofString "place") 355), (PySem.Value.str (PySem.Str.ofString "what") 356), (PySem.Value.str (PySem.Str.ofString "first") 357), (PySem.Value.str (PySem.Str.ofString "second") 358)] 0) #[]))
noncomputable abbrev hd.o_173 : PySem.Params → PySem.Obj := (fun (P : PySem.Params) => (PySem.Obj.mk (PySem.Value.type "tuple") (Option.none) (PySem.Data.seq #[] 0) #[]))
noncomputable abbrev hd.o_174 : PySem.Params → PySem.Obj := (fun (P : PySem.Params) => (PySem.Obj.mk PySem.Value.none (Option.none) (PySem.Data.func (PySem.FuncData.mk (PySem.Str.ofString "_law_read") (PySem.Str.ofString "_law_read") (fP (sAt 7)) (PySem.FuncBody.stmts (fB (sAt 7))) (fS (sAt 7)) 0 ([] : List (Prod PySem.Str Nat)) PySem.Value.none PySem.Value.none PySem.Value.none PySem.Value.none (Option.none) PySem.Value.none PySem.Value.none 0)) #[]))
noncomputable abbrev hd.o_175 : PySem.Params → PySem.Obj := (fun (P : PySem.Params) => (PySem.Obj.mk (PySem.Value.type "code") (Option.none) (PySem.Data.fields #[(PySem.Value.str (PySem.Str.ofString "_law_read") 349), (PySem.Value.str (PySem.Str.ofString "_law_read") 350), (PySem.Value.str (PySem.Str.ofString "/claim/cut.py") 351), (PySem.Value.int (62 : Int) 0), (PySem.Value.int (1 : Int) 0), (PySem.Value.int (0 : Int) 0), (PySem.Value.int (0 : Int) 0), (PySem.Value.int (3 : Int) 0), (PySem.Value.ref 121), (PySem.Value.bool Bool.true), (PySem.Value.int (181 : Int) 0), (PySem.Value.ref 122), PySem.Value.none, (PySem.Value.ref 123), (PySem.Value.ref 124), (PySem.Value.ref 125), (PySem.Value.int (359 : Int) 0), (PySem.Value.int (62 : Int) 0), (PySem.Value.str (PySem.Str.ofString "/claim/cut.py") 360)]) #[]))
noncomputable abbrev hd.o_176 : PySem.Params → PySem.Obj := (fun (P : PySem.Params) => (PySem.Obj.mk (PySem.Value.type "function") (Option.none) (PySem.Data.func (PySem.FuncData.mk (PySem.Str.ofString "_law_read") (PySem.Str.ofString "_law_read") (fP (sAt 7)) (PySem.FuncBody.stmts (fB (sAt 7))) (fS (sAt 7)) 3 ([] : List (Prod PySem.Str Nat)) PySem.Value.none PySem.Value.none PySem.Value.none (PySem.Value.str (PySem.Str.ofString "law_dv0002_01") 347) (Option.none) (PySem.Value.ref 126) PySem.Value.none 0)) #[]))
noncomputable abbrev hd.o_177 : PySem.Params → PySem.Obj := (fun (P : PySem.Params) => (PySem.Obj.mk (PySem.Value.type "tuple") (Option.none) (PySem.Data.seq #[] 0) #[]))
noncomputable abbrev hd.o_178 : PySem.Params → PySem.Obj := (fun (P : PySem.Params) => (PySem.Obj.mk PySem.Value.none (Option.none) (PySem.Data.fields #[]) #[]))
noncomputable abbrev hd.o_179 : PySem.Params → PySem.Obj := (fun (P : PySem.Params) => (PySem.Obj.mk (PySem.Value.type "tuple") (Option.none) (PySem.Data.seq #[(PySem.Value.str (PySem.Str.ofString "words") 365), (PySem.Value.str (PySem.Str.ofString "start") 366)] 0) #[]))
noncomputable abbrev hd.o_180 : PySem.Params → PySem.Obj := (fun (P : PySem.Params) => (PySem.Obj.mk (PySem.Value.type "tuple") (Option.none) (PySem.Data.seq #[] 0) #[]))
noncomputable abbrev hd.o_181 : PySem.Params → PySem.Obj := (fun (P : PySem.Params) => (PySem.Obj.mk PySem.Value.none (Option.none) (PySem.Data.func (PySem.FuncData.mk (PySem.Str.ofString "_law_place") (PySem.Str.ofString "_law_place") (fP (sAt 8)) (PySem.FuncBody.stmts (fB (sAt 8))) (fS (sAt 8)) 0 ([] : List (Prod PySem.Str Nat)) PySem.Value.none PySem.Value.none PySem.Value.none PySem.Value.none (Option.none) PySem.Value.none PySem.Value.none 0)) #[]))
noncomputable abbrev hd.o_182 : PySem.Params → PySem.Obj := (fun (P : PySem.Params) => (PySem.Obj.mk (PySem.Value.type "code") (Option.none) (PySem.Data.fields #[(PySem.Value.str (PySem.Str.ofString "_law_place") 362), (PySem.Value.str (PySem.Str.ofString "_law_place") 363), (PySem.Value.str (PySem.Str.ofString "/claim/cut.py") 364), (PySem.Value.int (80 : Int) 0), (PySem.Value.int (1 : Int) 0), (PySem.Value.int (0 : Int) 0), (PySem.Value.int (0 : Int) 0), (PySem.Value.int (3 : Int) 0), (PySem.Value.ref 128), (PySem.Value.bool Bool.true), (PySem.Value.int (181 : Int) 0), (PySem.Value.ref 129), PySem.Value.none, (PySem.Value.ref 130), (PySem.Value.ref 131), (PySem.Value.ref 132), (PySem.Value.int (367 : Int) 0), (PySem.Value.int (80 : Int) 0), (PySem.Value.str (PySem.Str.ofString "/claim/cut.py") 368)]) #[]))
noncomputable abbrev hd.o_183 : PySem.Params → PySem.Obj := (fun (P : PySem.Params) => (PySem.Obj.mk (PySem.Value.type "function") (Option.none) (PySem.Data.func (PySem.FuncData.mk (PySem.Str.ofString "_law_place") (PySem.Str.ofString "_law_place") (fP (sAt 8)) (PySem.FuncBody.stmts (fB (sAt 8))) (fS (sAt 8)) 3 ([] : List (Prod PySem.Str Nat)) PySem.Value.none PySem.Value.none PySem.Value.none (PySem.Value.str (PySem.Str.ofString "law_dv0002_01") 347) (Option.none) (PySem.Value.ref 133) PySem.Value.none 0)) #[]))
noncomputable abbrev hd.o_184 : PySem.Params → PySem.Obj := (fun (P : PySem.Params) => (PySem.Obj.mk (PySem.Value.type "tuple") (Option.none) (PySem.Data.seq #[] 0) #[]))
noncomputable abbrev hd.o_185 : PySem.Params → PySem.Obj := (fun (P : PySem.Params) => (PySem.Obj.mk PySem.Value.none (Option.none) (PySem.Data.fields #[]) #[]))
noncomputable abbrev hd.o_186 : PySem.Params → PySem.Obj := (fun (P : PySem.Params) => (PySem.Obj.mk PySem.Value.none (Option.none) (PySem.Data.func (PySem.FuncData.mk (PySem.Str.ofString "_law_fault") (PySem.Str.ofString "_law_fault") (fP (sAt 9)) (PySem.FuncBody.stmts (fB (sAt 9))) (fS (sAt 9)) 0 ([] : List (Prod PySem.Str Nat)) PySem.Value.none PySem.Value.none PySem.Value.none PySem.Value.none (Option.none) PySem.Value.none PySem.Value.none 0)) #[]))
noncomputable abbrev hd.o_187 : PySem.Params → PySem.Obj := (fun (P : PySem.Params) => (PySem.Obj.mk (PySem.Value.type "code") (Option.none) (PySem.Data.fields #[(PySem.Value.str (PySem.Str.ofString "_law_fault") 370), (PySem.Value.str (PySem.Str.ofString "_law_fault") 371), (PySem.Value.str (PySem.Str.ofString "/claim/cut.py") 372), (PySem.Value.int (83 : Int) 0), (PySem.Value.int (1 : Int) 0), (PySem.Value.int (0 : Int) 0), (PySem.Value.int (0 : Int) 0), (PySem.Value.int (3 : Int) 0), (PySem.Value.ref 135), (PySem.Value.bool Bool.true), (PySem.Value.int (181 : Int) 0), (PySem.Value.ref 136), PySem.Value.none, PySem.Value.none, PySem.Value.none, (PySem.Value.ref 137), (PySem.Value.int (373 : Int) 0), (PySem.Value.int (83 : Int) 0), (PySem.Value.str (PySem.Str.ofString "/claim/cut.py") 374)]) #[]))
noncomputable abbrev hd.o_188 : PySem.Params → PySem.Obj := (fun (P : PySem.Params) => (PySem.Obj.mk (PySem.Value.type "function") (Option.none) (PySem.Data.func (PySem.FuncData.mk (PySem.Str.ofString "_law_fault") (PySem.Str.ofString "_law_fault") (fP (sAt 9)) (PySem.FuncBody.stmts (fB (sAt 9))) (fS (sAt 9)) 3 ([] : List (Prod PySem.Str Nat)) PySem.Value.none PySem.Value.none PySem.Value.none (PySem.Value.str (PySem.Str.ofString "law_dv0002_01") 347) (Option.none) (PySem.Value.ref 138) PySem.Value.none 0)) #[]))
noncomputable abbrev hd.o_189 : PySem.Params → PySem.Obj := (fun (P : PySem.Params) => (PySem.Obj.mk (PySem.Value.type "tuple") (Option.none) (PySem.Data.seq #[] 0) #[]))
noncomputable abbrev hd.o_190 : PySem.Params → PySem.Obj := (fun (P : PySem.Params) => (PySem.Obj.mk PySem.Value.none (Option.none) (PySem.Data.fields #[]) #[]))
noncomputable abbrev hd.o_191 : PySem.Params → PySem.Obj := (fun (P : PySem.Params) => (PySem.Obj.mk (PySem.Value.type "tuple") (Option.none) (PySem.Data.seq #[(PySem.Value.str (PySem.Str.ofString "text") 379)] 0) #[]))
noncomputable abbrev hd.o_192 : PySem.Params → PySem.Obj := (fun (P : PySem.Params) => (PySem.Obj.mk (PySem.Value.type "tuple") (Option.none) (PySem.Data.seq #[] 0) #[]))
noncomputable abbrev hd.o_193 : PySem.Params → PySem.Obj := (fun (P : PySem.Params) => (PySem.Obj.mk PySem.Value.none (Option.none) (PySem.Data.func (PySem.FuncData.mk (PySem.Str.ofString "_law_quoted") (PySem.Str.ofString "_law_quoted") (fP (sAt 10)) (PySem.FuncBody.stmts (fB (sAt 10))) (fS (sAt 10)) 0 ([] : List (Prod PySem.Str Nat)) PySem.Value.none PySem.Value.none PySem.Value.none PySem.Value.none (Option.none) PySem.Value.none PySem.Value.none 0)) #[]))
noncomputable abbrev hd.o_194 : PySem.Params → PySem.Obj := (fun (P : PySem.Params) => (PySem.Obj.mk (PySem.Value.type "code") (Option.none) (PySem.Data.fields #[(PySem.Value.str (PySem.Str.ofString "_law_quoted") 376), (PySem.Value.str (PySem.Str.ofString "_law_quoted") 377), (PySem.Value.str (PySem.Str.ofString "/claim/cut.py") 378), (PySem.Value.int (97 : Int) 0), (PySem.Value.int (1 : Int) 0), (PySem.Value.int (0 : Int) 0), (PySem.Value.int (0 : Int) 0), (PySem.Value.int (3 : Int) 0), (PySem.Value.ref 140), (PySem.Value.bool Bool.true), (PySem.Value.int (181 : Int) 0), (PySem.Value.ref 141), PySem.Value.none, (PySem.Value.ref 142), (PySem.Value.ref 143), (PySem.Value.ref 144), (PySem.Value.int (380 : Int) 0), (PySem.Value.int (97 : Int) 0), (PySem.Value.str (PySem.Str.ofString "/claim/cut.py") 381)]) #[]))
noncomputable abbrev hd.o_195 : PySem.Params → PySem.Obj := (fun (P : PySem.Params) => (PySem.Obj.mk (PySem.Value.type "function") (Option.none) (PySem.Data.func (PySem.FuncData.mk (PySem.Str.ofString "_law_quoted") (PySem.Str.ofString "_law_quoted") (fP (sAt 10)) (PySem.FuncBody.stmts (fB (sAt 10))) (fS (sAt 10)) 3 ([] : List (Prod PySem.Str Nat)) PySem.Value.none PySem.Value.none PySem.Value.none (PySem.Value.str (PySem.Str.ofString "law_dv0002_01") 347) (Option.none) (PySem.Value.ref 145) PySem.Value.none 0)) #[]))
noncomputable abbrev hd.o_196 : PySem.Params → PySem.Obj := (fun (P : PySem.Params) => (PySem.Obj.mk (PySem.Value.type "dict") (Option.none) (PySem.Data.dict #[(PySem.DictEntry.mk (PySem.PyData.keyHash P (PySem.Str.ofString "__name__")) (PySem.Value.str (PySem.Str.ofString "__name__") 165) (PySem.Value.str (PySem.Str.ofString "law_dv0002_01") 347)), (PySem.DictEntry.mk (PySem.PyData.keyHash P (PySem.Str.ofString "__doc__")) (PySem.Value.str (PySem.Str.ofString "__doc__") 166) PySem.Value.none), (PySem.DictEntry.mk (PySem.PyData.keyHash P (PySem.Str.ofString "__package__")) (PySem.Value.str (PySem.Str.ofString "__package__") 167) PySem.Value.none), (PySem.DictEntry.mk (PySem.PyData.keyHash P (PySem.Str.ofString "__loader__")) (PySem.Value.str (PySem.Str.ofString "__loader__") 168) (PySem.Value.builtin "__main__.__loader__#opaque")), (PySem.DictEntry.mk (PySem.PyData.keyHash P (PySem.Str.ofString "__spec__")) (PySem.Value.str (PySem.Str.ofString "__spec__") 169) PySem.Value.none), (PySem.DictEntry.mk (PySem.PyData.keyHash P (PySem.Str.ofString "__annotations__")) (PySem.Value.str (PySem.Str.ofString "__annotations__") 170) (PySem.Value.ref 6)), (PySem.DictEntry.mk (PySem.PyData.keyHash P (PySem.Str.ofString "__builtins__")) (PySem.Value.str (PySem.Str.ofString "__builtins__") 171) (PySem.Value.ref 4)), (PySem.DictEntry.mk (PySem.PyData.keyHash P (PySem.Str.ofString "__file__")) (PySem.Value.str (PySem.Str.ofString "__file__") 173) (PySem.Value.str (PySem.Str.ofString "/claim/cut.py") 172)), (PySem.DictEntry.mk (PySem.PyData.keyHash P (PySem.Str.ofString "__cached__")) (PySem.Value.str (PySem.Str.ofString "__cached__") 174) PySem.Value.none), (PySem.DictEntry.mk (PySem.PyData.keyHash P (PySem.Str.ofString "Error")) (PySem.Value.str (PySem.Str.ofString "Error") 226) (PySem.Value.ref 39)), (PySem.DictEntry.mk (PySem.PyData.keyHash P (PySem.Str.ofString "NoSectionError")) (PySem.Value.str (PySem.Str.ofString "NoSectionError") 252) (PySem.Value.ref 59)), (PySem.DictEntry.mk (PySem.PyData.keyHash P (PySem.Str.ofString "DuplicateSectionError")) (PySem.Value.str (PySem.Str.ofString "DuplicateSectionError") 284) (PySem.Value.ref 79)), (PySem.DictEntry.mk (PySem.PyData.keyHash P (PySem.Str.ofString "DuplicateOptionError")) (PySem.Value.str (PySem.Str.ofString "DuplicateOptionError") 318) (PySem.Value.ref 99)), (PySem.DictEntry.mk (PySem.PyData.keyHash P (PySem.Str.ofString "NoOptionError")) (PySem.Value.str (PySem.Str.ofString "NoOptionError") 346) (PySem.Value.ref 118)), (PySem.DictEntry.mk (PySem.PyData.keyHash P (PySem.Str.ofString "_law_read")) (PySem.Value.str (PySem.Str.ofString "_law_read") 361) (PySem.Value.ref 127)), (PySem.DictEntry.mk (PySem.PyData.keyHash P (PySem.Str.ofString "_law_place")) (PySem.Value.str (PySem.Str.ofString "_law_place") 369) (PySem.Value.ref 134)), (PySem.DictEntry.mk (PySem.PyData.keyHash P (PySem.Str.ofString "_law_fault")) (PySem.Value.str (PySem.Str.ofString "_law_fault") 375) (PySem.Value.ref 139)), (PySem.DictEntry.mk (PySem.PyData.keyHash P (PySem.Str.ofString "_law_quoted")) (PySem.Value.str (PySem.Str.ofString "_law_quoted") 382) (PySem.Value.ref 146)), (PySem.DictEntry.mk (PySem.PyData.keyHash P (PySem.Str.ofString "_law_due")) (PySem.Value.str (PySem.Str.ofString "_law_due") 401) (PySem.Value.ref 153)), (PySem.DictEntry.mk (PySem.PyData.keyHash P (PySem.Str.ofString "law")) (PySem.Value.str (PySem.Str.ofString "law") 418) (PySem.Value.ref 160))] 20) #[]))
noncomputable abbrev hd.o_197 : PySem.Params → PySem.Obj := (fun (P : PySem.Params) => (PySem.Obj.mk PySem.Value.none (Option.none) (PySem.Data.fields #[(PySem.Value.int (2 : Int) 0), (PySem.Value.int (0 : Int) 0), (PySem.Value.ref 20), (PySem.Value.int (11 : Int) 0), (PySem.Value.int (0 : Int) 0), (PySem.Value.ref 48), (PySem.Value.int (17 : Int) 0), (PySem.Value.int (0 : Int) 0), (PySem.Value.ref 67), (PySem.Value.int (35 : Int) 0), (PySem.Value.int (0 : Int) 0), (PySem.Value.ref 87), (PySem.Value.int (54 : Int) 0), (PySem.Value.int (0 : Int) 0), (PySem.Value.ref 107), (PySem.Value.int (62 : Int) 0), (PySem.Value.int (0 : Int) 0), (PySem.Value.ref 126), (PySem.Value.int (80 : Int) 0), (PySem.Value.int (0 : Int) 0), (PySem.Value.ref 133), (PySem.Value.int (83 : Int) 0), (PySem.Value.int (0 : Int) 0), (PySem.Value.ref 138), (PySem.Value.int (97 : Int) 0), (PySem.Value.int (0 : Int) 0), (PySem.Value.ref 145), (PySem.Value.int (99 : Int) 0), (PySem.Value.int (0 : Int) 0), (PySem.Value.ref 152), (PySem.Value.int (132 : Int) 0), (PySem.Value.int (0 : Int) 0), (PySem.Value.ref 159)]) #[]))
noncomputable abbrev hd.o_198 : PySem.Params → PySem.Obj := (fun (P : PySem.Params) => (PySem.Obj.mk (PySem.Value.type "tuple") (Option.none) (PySem.Data.seq #[] 0) #[]))
noncomputable abbrev hd.o_199 : PySem.Params → PySem.Obj := (fun (P : PySem.Params) => (PySem.Obj.mk PySem.Value.none (Option.none) (PySem.Data.fields #[]) #[]))
noncomputable abbrev hd.o_200 : PySem.Params → PySem.Obj := (fun (P : PySem.Params) => (PySem.Obj.mk (PySem.Value.type "tuple") (Option.none) (PySem.Data.seq #[(PySem.Value.str (PySem.Str.ofString "rows") 386), (PySem.Value.str (PySem.Str.ofString "kept") 387), (PySem.Value.str (PySem.Str.ofString "log") 388), (PySem.Value.str (PySem.Str.ofString "sections") 389), (PySem.Value.str (PySem.Str.ofString "options") 390), (PySem.Value.str (PySem.Str.ofString "name") 391), (PySem.Value.str (PySem.Str.ofString "what") 392), (PySem.Value.str (PySem.Str.ofString "first") 393), (PySem.Value.str (PySem.Str.ofString "second") 394), (PySem.Value.str (PySem.Str.ofString "line") 395), (PySem.Value.str (PySem.Str.ofString "place") 396), (PySem.Value.str (PySem.Str.ofString "fault") 397), (PySem.Value.str (PySem.Str.ofString "words") 398)] 0) #[]))
noncomputable abbrev hd.o_201 : PySem.Params → PySem.Obj := (fun (P : PySem.Params) => (PySem.Obj.mk (PySem.Value.type "tuple") (Option.none) (PySem.Data.seq #[] 0) #[]))
noncomputable abbrev hd.o_202 : PySem.Params → PySem.Obj := (fun (P : PySem.Params) => (PySem.Obj.mk PySem.Value.none (Option.none) (PySem.Data.func (PySem.FuncData.mk (PySem.Str.ofString "_law_due") (PySem.Str.ofString "_law_due") (fP (sAt 11)) (PySem.FuncBody.stmts (fB (sAt 11))) (fS (sAt 11)) 0 ([] : List (Prod PySem.Str Nat)) PySem.Value.none PySem.Value.none PySem.Value.none PySem.Value.none (Option.none) PySem.Value.none PySem.Value.none 0)) #[]))
noncomputable abbrev hd.o_203 : PySem.Params → PySem.Obj := (fun (P : PySem.Params) => (PySem.Obj.mk (PySem.Value.type "code") (Option.none) (PySem.Data.fields #[(PySem.Value.str (PySem.Str.ofString "_law_due") 383), (PySem.Value.str (PySem.Str.ofString "_law_due") 384), (PySem.Value.str (PySem.Str.ofString "/claim/cut.py") 385), (PySem.Value.int (99 : Int) 0), (PySem.Value.int (1 : Int) 0), (PySem.Value.int (0 : Int) 0), (PySem.Value.int (0 : Int) 0), (PySem.Value.int (3 : Int) 0), (PySem.Value.ref 147), (PySem.Value.bool Bool.true), (PySem.Value.int (181 : Int) 0), (PySem.Value.ref 148), PySem.Value.none, (PySem.Value.ref 149), (PySem.Value.ref 150), (PySem.Value.ref 151), (PySem.Value.int (399 : Int) 0), (PySem.Value.int (99 : Int) 0), (PySem.Value.str (PySem.Str.ofString "/claim/cut.py") 400)]) #[]))
noncomputable abbrev hd.o_204 : PySem.Params → PySem.Obj := (fun (P : PySem.Params) => (PySem.Obj.mk (PySem.Value.type "function") (Option.none) (PySem.Data.func (PySem.FuncData.mk (PySem.Str.ofString "_law_due") (PySem.Str.ofString "_law_due") (fP (sAt 11)) (PySem.FuncBody.stmts (fB (sAt 11))) (fS (sAt 11)) 3 ([] : List (Prod PySem.Str Nat)) PySem.Value.none PySem.Value.none PySem.Value.none (PySem.Value.str (PySem.Str.ofString "law_dv0002_01") 347) (Option.none) (PySem.Value.ref 152) PySem.Value.none 0)) #[]))
noncomputable abbrev hd.o_205 : PySem.Params → PySem.Obj := (fun (P : PySem.Params) => (PySem.Obj.mk (PySem.Value.type "tuple") (Option.none) (PySem.Data.seq #[] 0) #[]))
noncomputable abbrev hd.o_206 : PySem.Params → PySem.Obj := (fun (P : PySem.Params) => (PySem.Obj.mk PySem.Value.none (Option.none) (PySem.Data.fields #[]) #[]))
noncomputable abbrev hd.o_207 : PySem.Params → PySem.Obj := (fun (P : PySem.Params) => (PySem.Obj.mk (PySem.Value.type "tuple") (Option.none) (PySem.Data.seq #[(PySem.Value.str (PySem.Str.ofString "script") 405), (PySem.Value.str (PySem.Str.ofString "rows") 406), (PySem.Value.str (PySem.Str.ofString "x") 407), (PySem.Value.str (PySem.Str.ofString "rest") 408), (PySem.Value.str (PySem.Str.ofString "kind") 409), (PySem.Value.str (PySem.Str.ofString "section") 410), (PySem.Value.str (PySem.Str.ofString "option") 411), (PySem.Value.str (PySem.Str.ofString "due") 412), (PySem.Value.str (PySem.Str.ofString "log") 413), (PySem.Value.str (PySem.Str.ofString "turn") 414), (PySem.Value.str (PySem.Str.ofString "fault") 415)] 0) #[]))
noncomputable abbrev hd.o_208 : PySem.Params → PySem.Obj := (fun (P : PySem.Params) => (PySem.Obj.mk (PySem.Value.type "tuple") (Option.none) (PySem.Data.seq #[] 0) #[]))
noncomputable abbrev hd.o_209 : PySem.Params → PySem.Obj := (fun (P : PySem.Params) => (PySem.Obj.mk PySem.Value.none (Option.none) (PySem.Data.func (PySem.FuncData.mk (PySem.Str.ofString "law") (PySem.Str.ofString "law") (fP (sAt 12)) (PySem.FuncBody.stmts (fB (sAt 12))) (fS (sAt 12)) 0 ([] : List (Prod PySem.Str Nat)) PySem.Value.none PySem.Value.none PySem.Value.none PySem.Value.none (Option.none) PySem.Value.none PySem.Value.none 0)) #[]))
noncomputable abbrev hd.o_210 : PySem.Params → PySem.Obj := (fun (P : PySem.Params) => (PySem.Obj.mk (PySem.Value.type "code") (Option.none) (PySem.Data.fields #[(PySem.Value.str (PySem.Str.ofString "law") 402), (PySem.Value.str (PySem.Str.ofString "law") 403), (PySem.Value.str (PySem.Str.ofString "/claim/cut.py") 404), (PySem.Value.int (132 : Int) 0), (PySem.Value.int (1 : Int) 0), (PySem.Value.int (0 : Int) 0), (PySem.Value.int (0 : Int) 0), (PySem.Value.int (3 : Int) 0), (PySem.Value.ref 154), (PySem.Value.bool Bool.true), (PySem.Value.int (181 : Int) 0), (PySem.Value.ref 155), PySem.Value.none, (PySem.Value.ref 156), (PySem.Value.ref 157), (PySem.Value.ref 158), (PySem.Value.int (416 : Int) 0), (PySem.Value.int (132 : Int) 0), (PySem.Value.str (PySem.Str.ofString "/claim/cut.py") 417)]) #[]))
noncomputable abbrev hd.o_211 : PySem.Params → PySem.Obj := (fun (P : PySem.Params) => (PySem.Obj.mk (PySem.Value.type "function") (Option.none) (PySem.Data.func (PySem.FuncData.mk (PySem.Str.ofString "law") (PySem.Str.ofString "law") (fP (sAt 12)) (PySem.FuncBody.stmts (fB (sAt 12))) (fS (sAt 12)) 3 ([] : List (Prod PySem.Str Nat)) PySem.Value.none PySem.Value.none PySem.Value.none (PySem.Value.str (PySem.Str.ofString "law_dv0002_01") 347) (Option.none) (PySem.Value.ref 159) PySem.Value.none 0)) #[]))
noncomputable abbrev hd.heap_46 : (∀ (x : PySem.Params), PySem.Heap) := (fun (P : PySem.Params) => (PySem.Heap.mk (Array.mk [(PySem.W.boot_o_0 P), (PySem.W.boot_o_1 P), (PySem.W.boot_o_2 P), (PySem.W.boot_o_3 P), (PySem.W.boot_o_4 P), (PySem.W.boot_o_5 P), (PySem.W.boot_o_6 P), (PySem.W.boot_o_7 P), (PySem.W.boot_o_8 P), (PySem.W.boot_o_9 P), (PySem.W.boot_o_10 P), (hd.o_43 P), (hd.o_44 P), (hd.o_45 P), (hd.o_46 P)]) (PySem.Life.mk ([] : List Nat) ([] : List Nat) ([] : List Nat) 0 ([] : List (Prod Nat Nat)) ([] : List Nat) Bool.false #[] ([] : List Nat) 0 Bool.false Bool.false Bool.false (0 : Int) [(2000 : Int), (10 : Int), (10 : Int)] Bool.false 0 Bool.true ([] : List Nat) ([] : List Nat) 0 Bool.false)))
noncomputable abbrev hd.tree_47 : PySem.Params → PySem.W.BT := (fun (P : PySem.Params) => (PySem.W.BT.node (PySem.W.boot_o_0 P) (PySem.W.BT.node (PySem.W.boot_o_1 P) (PySem.W.BT.node (PySem.W.boot_o_3 P) (PySem.W.BT.node (PySem.W.boot_o_7 P) PySem.W.BT.nil PySem.W.BT.nil) (PySem.W.BT.node (hd.o_43 P) PySem.W.BT.nil PySem.W.BT.nil)) (PySem.W.BT.node (PySem.W.boot_o_5 P) (PySem.W.BT.node (PySem.W.boot_o_9 P) PySem.W.BT.nil PySem.W.BT.nil) (PySem.W.BT.node (hd.o_45 P) PySem.W.BT.nil PySem.W.BT.nil))) (PySem.W.BT.node (PySem.W.boot_o_2 P) (PySem.W.BT.node (PySem.W.boot_o_4 P) (PySem.W.BT.node (PySem.W.boot_o_8 P) PySem.W.BT.nil PySem.W.BT.nil) (PySem.W.BT.node (hd.o_44 P) PySem.W.BT.nil PySem.W.BT.nil)) (PySem.W.BT.node (PySem.W.boot_o_6 P) (PySem.W.BT.node (PySem.W.boot_o_10 P) PySem.W.BT.nil PySem.W.BT.nil) (PySem.W.BT.node (hd.o_46 P) PySem.W.BT.nil PySem.W.BT.nil)))))
noncomputable abbrev hd.sts_49 : List PySem.Stmt := ((PySem.W.behindTheImports pE).drop 0).take 2
noncomputable abbrev hd.tree_79 : PySem.Params → PySem.W.BT := (fun (P : PySem.Params) => (PySem.W.BT.node (PySem.W.boot_o_0 P) (PySem.W.BT.node (PySem.W.boot_o_1 P) (PySem.W.BT.node (hd.o_50 P) (PySem.W.BT.node (PySem.W.boot_o_7 P) (PySem.W.BT.node (hd.o_52 P) (PySem.W.BT.node (hd.o_68 P) PySem.W.BT.nil PySem.W.BT.nil) PySem.W.BT.nil) (PySem.W.BT.node (hd.o_60 P) (PySem.W.BT.node (hd.o_76 P) PySem.W.BT.nil PySem.W.BT.nil) PySem.W.BT.nil)) (PySem.W.BT.node (hd.o_43 P) (PySem.W.BT.node (hd.o_56 P) (PySem.W.BT.node (hd.o_72 P) PySem.W.BT.nil PySem.W.BT.nil) PySem.W.BT.nil) (PySem.W.BT.node (hd.o_64 P) PySem.W.BT.nil PySem.W.BT.nil))) (PySem.W.BT.node (PySem.W.boot_o_5 P) (PySem.W.BT.node (PySem.W.boot_o_9 P) (PySem.W.BT.node (hd.o_54 P) (PySem.W.BT.node (hd.o_70 P) PySem.W.BT.nil PySem.W.BT.nil) PySem.W.BT.nil) (PySem.W.BT.node (hd.o_62 P) (PySem.W.BT.node (hd.o_78 P) PySem.W.BT.nil PySem.W.BT.nil) PySem.W.BT.nil)) (PySem.W.BT.node (hd.o_45 P) (PySem.W.BT.node (hd.o_58 P) (PySem.W.BT.node (hd.o_74 P) PySem.W.BT.nil PySem.W.BT.nil) PySem.W.BT.nil) (PySem.W.BT.node (hd.o_66 P) PySem.W.BT.nil PySem.W.BT.nil)))) (PySem.W.BT.node (hd.o_49 P) (PySem.W.BT.node (PySem.W.boot_o_4 P) (PySem.W.BT.node (PySem.W.boot_o_8 P) (PySem.W.BT.node (hd.o_53 P) (PySem.W.BT.node (hd.o_69 P) PySem.W.BT.nil PySem.W.BT.nil) PySem.W.BT.nil) (PySem.W.BT.node (hd.o_61 P) (PySem.W.BT.node (hd.o_77 P) PySem.W.BT.nil PySem.W.BT.nil) PySem.W.BT.nil)) (PySem.W.BT.node (hd.o_51 P) (PySem.W.BT.node (hd.o_57 P) (PySem.W.BT.node (hd.o_73 P) PySem.W.BT.nil PySem.W.BT.nil) PySem.W.BT.nil) (PySem.W.BT.node (hd.o_65 P) PySem.W.BT.nil PySem.W.BT.nil))) (PySem.W.BT.node (PySem.W.boot_o_6 P) (PySem.W.BT.node (PySem.W.boot_o_10 P) (PySem.W.BT.node (hd.o_55 P) (PySem.W.BT.node (hd.o_71 P) PySem.W.BT.nil PySem.W.BT.nil) PySem.W.BT.nil) (PySem.W.BT.node (hd.o_63 P) (PySem.W.BT.node (hd.o_79 P) PySem.W.BT.nil PySem.W.BT.nil) PySem.W.BT.nil)) (PySem.W.BT.node (hd.o_46 P) (PySem.W.BT.node (hd.o_59 P) (PySem.W.BT.node (hd.o_75 P) PySem.W.BT.nil PySem.W.BT.nil) PySem.W.BT.nil) (PySem.W.BT.node (hd.o_67 P) PySem.W.BT.nil PySem.W.BT.nil))))))
noncomputable abbrev hd.sts_80 : List PySem.Stmt := ((PySem.W.behindTheImports pE).drop 2).take 1
noncomputable abbrev hd.tree_101 : PySem.Params → PySem.W.BT := (fun (P : PySem.Params) => (PySem.W.BT.node (PySem.W.boot_o_0 P) (PySem.W.BT.node (PySem.W.boot_o_1 P) (PySem.W.BT.node (hd.o_80 P) (PySem.W.BT.node (PySem.W.boot_o_7 P) (PySem.W.BT.node (hd.o_52 P) (PySem.W.BT.node (hd.o_68 P) PySem.W.BT.nil PySem.W.BT.nil) (PySem.W.BT.node (hd.o_87 P) PySem.W.BT.nil PySem.W.BT.nil)) (PySem.W.BT.node (hd.o_60 P) (PySem.W.BT.node (hd.o_82 P) PySem.W.BT.nil PySem.W.BT.nil) (PySem.W.BT.node (hd.o_95 P) PySem.W.BT.nil PySem.W.BT.nil))) (PySem.W.BT.node (hd.o_43 P) (PySem.W.BT.node (hd.o_56 P) (PySem.W.BT.node (hd.o_72 P) PySem.W.BT.nil PySem.W.BT.nil) (PySem.W.BT.node (hd.o_91 P) PySem.W.BT.nil PySem.W.BT.nil)) (PySem.W.BT.node (hd.o_64 P) (PySem.W.BT.node (hd.o_83 P) PySem.W.BT.nil PySem.W.BT.nil) (PySem.W.BT.node (hd.o_99 P) PySem.W.BT.nil PySem.W.BT.nil)))) (PySem.W.BT.node (PySem.W.boot_o_5 P) (PySem.W.BT.node (PySem.W.boot_o_9 P) (PySem.W.BT.node (hd.o_54 P) (PySem.W.BT.node (hd.o_70 P) PySem.W.BT.nil PySem.W.BT.nil) (PySem.W.BT.node (hd.o_89 P) PySem.W.BT.nil PySem.W.BT.nil)) (PySem.W.BT.node (hd.o_62 P) (PySem.W.BT.node (hd.o_78 P) PySem.W.BT.nil PySem.W.BT.nil) (PySem.W.BT.node (hd.o_97 P) PySem.W.BT.nil PySem.W.BT.nil))) (PySem.W.BT.node (hd.o_45 P) (PySem.W.BT.node (hd.o_58 P) (PySem.W.BT.node (hd.o_74 P) PySem.W.BT.nil PySem.W.BT.nil) (PySem.W.BT.node (hd.o_93 P) PySem.W.BT.nil PySem.W.BT.nil)) (PySem.W.BT.node (hd.o_66 P) (PySem.W.BT.node (hd.o_85 P) PySem.W.BT.nil PySem.W.BT.nil) (PySem.W.BT.node (hd.o_101 P) PySem.W.BT.nil PySem.W.BT.nil))))) (PySem.W.BT.node (hd.o_49 P) (PySem.W.BT.node (PySem.W.boot_o_4 P) (PySem.W.BT.node (PySem.W.boot_o_8 P) (PySem.W.BT.node (hd.o_53 P) (PySem.W.BT.node (hd.o_69 P) PySem.W.BT.nil PySem.W.BT.nil) (PySem.W.BT.node (hd.o_88 P) PySem.W.BT.nil PySem.W.BT.nil)) (PySem.W.BT.node (hd.o_61 P) (PySem.W.BT.node (hd.o_77 P) PySem.W.BT.nil PySem.W.BT.nil) (PySem.W.BT.node (hd.o_96 P) PySem.W.BT.nil PySem.W.BT.nil))) (PySem.W.BT.node (hd.o_81 P) (PySem.W.BT.node (hd.o_57 P) (PySem.W.BT.node (hd.o_73 P) PySem.W.BT.nil PySem.W.BT.nil) (PySem.W.BT.node (hd.o_92 P) PySem.W.BT.nil PySem.W.BT.nil)) (PySem.W.BT.node (hd.o_65 P) (PySem.W.BT.node (hd.o_84 P) PySem.W.BT.nil PySem.W.BT.nil) (PySem.W.BT.node (hd.o_100 P) PySem.W.BT.nil PySem.W.BT.nil)))) (PySem.W.BT.node (PySem.W.boot_o_6 P) (PySem.W.BT.node (PySem.W.boot_o_10 P) (PySem.W.BT.node (hd.o_55 P) (PySem.W.BT.node (hd.o_71 P) PySem.W.BT.nil PySem.W.BT.nil) (PySem.W.BT.node (hd.o_90 P) PySem.W.BT.nil PySem.W.BT.nil)) (PySem.W.BT.node (hd.o_63 P) (PySem.W.BT.node (hd.o_79 P) PySem.W.BT.nil PySem.W.BT.nil) (PySem.W.BT.node (hd.o_98 P) PySem.W.BT.nil PySem.W.BT.nil))) (PySem.W.BT.node (hd.o_46 P) (PySem.W.BT.node (hd.o_59 P) (PySem.W.BT.node (hd.o_75 P) PySem.W.BT.nil PySem.W.BT.nil) (PySem.W.BT.node (hd.o_94 P) PySem.W.BT.nil PySem.W.BT.nil)) (PySem.W.BT.node (hd.o_67 P) (PySem.W.BT.node (hd.o_86 P) PySem.W.BT.nil PySem.W.BT.nil) PySem.W.BT.nil))))))
noncomputable abbrev hd.sts_102 : List PySem.Stmt := ((PySem.W.behindTheImports pE).drop 3).take 1
noncomputable abbrev hd.tree_124 : PySem.Params → PySem.W.BT := (fun (P : PySem.Params) => (PySem.W.BT.node (PySem.W.boot_o_0 P) (PySem.W.BT.node (PySem.W.boot_o_1 P) (PySem.W.BT.node (hd.o_102 P) (PySem.W.BT.node (PySem.W.boot_o_7 P) (PySem.W.BT.node (hd.o_52 P) (PySem.W.BT.node (hd.o_68 P) (PySem.W.BT.node (hd.o_106 P) PySem.W.BT.nil PySem.W.BT.nil) PySem.W.BT.nil) (PySem.W.BT.node (hd.o_87 P) (PySem.W.BT.node (hd.o_122 P) PySem.W.BT.nil PySem.W.BT.nil) PySem.W.BT.nil)) (PySem.W.BT.node (hd.o_60 P) (PySem.W.BT.node (hd.o_104 P) (PySem.W.BT.node (hd.o_114 P) PySem.W.BT.nil PySem.W.BT.nil) PySem.W.BT.nil) (PySem.W.BT.node (hd.o_95 P) PySem.W.BT.nil PySem.W.BT.nil))) (PySem.W.BT.node (hd.o_43 P) (PySem.W.BT.node (hd.o_56 P) (PySem.W.BT.node (hd.o_72 P) (PySem.W.BT.node (hd.o_110 P) PySem.W.BT.nil PySem.W.BT.nil) PySem.W.BT.nil) (PySem.W.BT.node (hd.o_91 P) PySem.W.BT.nil PySem.W.BT.nil)) (PySem.W.BT.node (hd.o_64 P) (PySem.W.BT.node (hd.o_83 P) (PySem.W.BT.node (hd.o_118 P) PySem.W.BT.nil PySem.W.BT.nil) PySem.W.BT.nil) (PySem.W.BT.node (hd.o_99 P) PySem.W.BT.nil PySem.W.BT.nil)))) (PySem.W.BT.node (PySem.W.boot_o_5 P) (PySem.W.BT.node (PySem.W.boot_o_9 P) (PySem.W.BT.node (hd.o_54 P) (PySem.W.BT.node (hd.o_70 P) (PySem.W.BT.node (hd.o_108 P) PySem.W.BT.nil PySem.W.BT.nil) PySem.W.BT.nil) (PySem.W.BT.node (hd.o_89 P) (PySem.W.BT.node (hd.o_124 P) PySem.W.BT.nil PySem.W.BT.nil) PySem.W.BT.nil)) (PySem.W.BT.node (hd.o_62 P) (PySem.W.BT.node (hd.o_78 P) (PySem.W.BT.node (hd.o_116 P) PySem.W.BT.nil PySem.W.BT.nil) PySem.W.BT.nil) (PySem.W.BT.node (hd.o_97 P) PySem.W.BT.nil PySem.W.BT.nil))) (PySem.W.BT.node (hd.o_45 P) (PySem.W.BT.node (hd.o_58 P) (PySem.W.BT.node (hd.o_74 P) (PySem.W.BT.node (hd.o_112 P) PySem.W.BT.nil PySem.W.BT.nil) PySem.W.BT.nil) (PySem.W.BT.node (hd.o_93 P) PySem.W.BT.nil PySem.W.BT.nil)) (PySem.W.BT.node (hd.o_66 P) (PySem.W.BT.node (hd.o_85 P) (PySem.W.BT.node (hd.o_120 P) PySem.W.BT.nil PySem.W.BT.nil) PySem.W.BT.nil) (PySem.W.BT.node (hd.o_101 P) PySem.W.BT.nil PySem.W.BT.nil))))) (PySem.W.BT.node (hd.o_49 P) (PySem.W.BT.node (PySem.W.boot_o_4 P) (PySem.W.BT.node (PySem.W.boot_o_8 P) (PySem.W.BT.node (hd.o_53 P) (PySem.W.BT.node (hd.o_69 P) (PySem.W.BT.node (hd.o_107 P) PySem.W.BT.nil PySem.W.BT.nil) PySem.W.BT.nil) (PySem.W.BT.node (hd.o_88 P) (PySem.W.BT.node (hd.o_123 P) PySem.W.BT.nil PySem.W.BT.nil) PySem.W.BT.nil)) (PySem.W.BT.node (hd.o_61 P) (PySem.W.BT.node (hd.o_77 P) (PySem.W.BT.node (hd.o_115 P) PySem.W.BT.nil PySem.W.BT.nil) PySem.W.BT.nil) (PySem.W.BT.node (hd.o_96 P) PySem.W.BT.nil PySem.W.BT.nil))) (PySem.W.BT.node (hd.o_103 P) (PySem.W.BT.node (hd.o_57 P) (PySem.W.BT.node (hd.o_73 P) (PySem.W.BT.node (hd.o_111 P) PySem.W.BT.nil PySem.W.BT.nil) PySem.W.BT.nil) (PySem.W.BT.node (hd.o_92 P) PySem.W.BT.nil PySem.W.BT.nil)) (PySem.W.BT.node (hd.o_65 P) (PySem.W.BT.node (hd.o_84 P) (PySem.W.BT.node (hd.o_119 P) PySem.W.BT.nil PySem.W.BT.nil) PySem.W.BT.nil) (PySem.W.BT.node (hd.o_100 P) PySem.W.BT.nil PySem.W.BT.nil)))) (PySem.W.BT.node (PySem.W.boot_o_6 P) (PySem.W.BT.node (PySem.W.boot_o_10 P) (PySem.W.BT.node (hd.o_55 P) (PySem.W.BT.node (hd.o_71 P) (PySem.W.BT.node (hd.o_109 P) PySem.W.BT.nil PySem.W.BT.nil) PySem.W.BT.nil) (PySem.W.BT.node (hd.o_90 P) PySem.W.BT.nil PySem.W.BT.nil)) (PySem.W.BT.node (hd.o_63 P) (PySem.W.BT.node (hd.o_79 P) (PySem.W.BT.node (hd.o_117 P) PySem.W.BT.nil PySem.W.BT.nil) PySem.W.BT.nil) (PySem.W.BT.node (hd.o_98 P) PySem.W.BT.nil PySem.W.BT.nil))) (PySem.W.BT.node (hd.o_46 P) (PySem.W.BT.node (hd.o_59 P) (PySem.W.BT.node (hd.o_75 P) (PySem.W.BT.node (hd.o_113 P) PySem.W.BT.nil PySem.W.BT.nil) PySem.W.BT.nil) (PySem.W.BT.node (hd.o_94 P) PySem.W.BT.nil PySem.W.BT.nil)) (PySem.W.BT.node (hd.o_67 P) (PySem.W.BT.node (hd.o_86 P) (PySem.W.BT.node (hd.o_121 P) PySem.W.BT.nil PySem.W.BT.nil) PySem.W.BT.nil) (PySem.W.BT.node (hd.o_105 P) PySem.W.BT.nil PySem.W.BT.nil)))))))
noncomputable abbrev hd.sts_125 : List PySem.Stmt := ((PySem.W.behindTheImports pE).drop 4).take 1
noncomputable abbrev hd.tree_147 : PySem.Params → PySem.W.BT := (fun (P : PySem.Params) => (PySem.W.BT.node (PySem.W.boot_o_0 P) (PySem.W.BT.node (PySem.W.boot_o_1 P) (PySem.W.BT.node (hd.o_125 P) (PySem.W.BT.node (PySem.W.boot_o_7 P) (PySem.W.BT.node (hd.o_52 P) (PySem.W.BT.node (hd.o_68 P) (PySem.W.BT.node (hd.o_106 P) PySem.W.BT.nil PySem.W.BT.nil) (PySem.W.BT.node (hd.o_141 P) PySem.W.BT.nil PySem.W.BT.nil)) (PySem.W.BT.node (hd.o_87 P) (PySem.W.BT.node (hd.o_122 P) PySem.W.BT.nil PySem.W.BT.nil) PySem.W.BT.nil)) (PySem.W.BT.node (hd.o_60 P) (PySem.W.BT.node (hd.o_127 P) (PySem.W.BT.node (hd.o_114 P) PySem.W.BT.nil PySem.W.BT.nil) PySem.W.BT.nil) (PySem.W.BT.node (hd.o_95 P) (PySem.W.BT.node (hd.o_133 P) PySem.W.BT.nil PySem.W.BT.nil) PySem.W.BT.nil))) (PySem.W.BT.node (hd.o_43 P) (PySem.W.BT.node (hd.o_56 P) (PySem.W.BT.node (hd.o_72 P) (PySem.W.BT.node (hd.o_110 P) PySem.W.BT.nil PySem.W.BT.nil) (PySem.W.BT.node (hd.o_145 P) PySem.W.BT.nil PySem.W.BT.nil)) (PySem.W.BT.node (hd.o_91 P) (PySem.W.BT.node (hd.o_129 P) PySem.W.BT.nil PySem.W.BT.nil) PySem.W.BT.nil)) (PySem.W.BT.node (hd.o_64 P) (PySem.W.BT.node (hd.o_83 P) (PySem.W.BT.node (hd.o_118 P) PySem.W.BT.nil PySem.W.BT.nil) PySem.W.BT.nil) (PySem.W.BT.node (hd.o_99 P) (PySem.W.BT.node (hd.o_137 P) PySem.W.BT.nil PySem.W.BT.nil) PySem.W.BT.nil)))) (PySem.W.BT.node (PySem.W.boot_o_5 P) (PySem.W.BT.node (PySem.W.boot_o_9 P) (PySem.W.BT.node (hd.o_54 P) (PySem.W.BT.node (hd.o_70 P) (PySem.W.BT.node (hd.o_108 P) PySem.W.BT.nil PySem.W.BT.nil) (PySem.W.BT.node (hd.o_143 P) PySem.W.BT.nil PySem.W.BT.nil)) (PySem.W.BT.node (hd.o_89 P) (PySem.W.BT.node (hd.o_124 P) PySem.W.BT.nil PySem.W.BT.nil) PySem.W.BT.nil)) (PySem.W.BT.node (hd.o_62 P) (PySem.W.BT.node (hd.o_78 P) (PySem.W.BT.node (hd.o_116 P) PySem.W.BT.nil PySem.W.BT.nil) PySem.W.BT.nil) (PySem.W.BT.node (hd.o_97 P) (PySem.W.BT.node (hd.o_135 P) PySem.W.BT.nil PySem.W.BT.nil) PySem.W.BT.nil))) (PySem.W.BT.node (hd.o_45 P) (PySem.W.BT.node (hd.o_58 P) (PySem.W.BT.node (hd.o_74 P) (PySem.W.BT.node (hd.o_112 P) PySem.W.BT.nil PySem.W.BT.nil) (PySem.W.BT.node (hd.o_147 P) PySem.W.BT.nil PySem.W.BT.nil)) (PySem.W.BT.node (hd.o_93 P) (PySem.W.BT.node (hd.o_131 P) PySem.W.BT.nil PySem.W.BT.nil) PySem.W.BT.nil)) (PySem.W.BT.node (hd.o_66 P) (PySem.W.BT.node (hd.o_85 P) (PySem.W.BT.node (hd.o_120 P) PySem.W.BT.nil PySem.W.BT.nil) PySem.W.BT.nil) (PySem.W.BT.node (hd.o_101 P) (PySem.W.BT.node (hd.o_139 P) PySem.W.BT.nil PySem.W.BT.nil) PySem.W.BT.nil))))) (PySem.W.BT.node (hd.o_49 P) (PySem.W.BT.node (PySem.W.boot_o_4 P) (PySem.W.BT.node (PySem.W.boot_o_8 P) (PySem.W.BT.node (hd.o_53 P) (PySem.W.BT.node (hd.o_69 P) (PySem.W.BT.node (hd.o_107 P) PySem.W.BT.nil PySem.W.BT.nil) (PySem.W.BT.node (hd.o_142 P) PySem.W.BT.nil PySem.W.BT.nil)) (PySem.W.BT.node (hd.o_88 P) (PySem.W.BT.node (hd.o_123 P) PySem.W.BT.nil PySem.W.BT.nil) PySem.W.BT.nil)) (PySem.W.BT.node (hd.o_61 P) (PySem.W.BT.node (hd.o_77 P) (PySem.W.BT.node (hd.o_115 P) PySem.W.BT.nil PySem.W.BT.nil) PySem.W.BT.nil) (PySem.W.BT.node (hd.o_96 P) (PySem.W.BT.node (hd.o_134 P) PySem.W.BT.nil PySem.W.BT.nil) PySem.W.BT.nil))) (PySem.W.BT.node (hd.o_126 P) (PySem.W.BT.node (hd.o_57 P) (PySem.W.BT.node (hd.o_73 P) (PySem.W.BT.node (hd.o_111 P) PySem.W.BT.nil PySem.W.BT.nil) (PySem.W.BT.node (hd.o_146 P) PySem.W.BT.nil PySem.W.BT.nil)) (PySem.W.BT.node (hd.o_92 P) (PySem.W.BT.node (hd.o_130 P) PySem.W.BT.nil PySem.W.BT.nil) PySem.W.BT.nil)) (PySem.W.BT.node (hd.o_65 P) (PySem.W.BT.node (hd.o_84 P) (PySem.W.BT.node (hd.o_119 P) PySem.W.BT.nil PySem.W.BT.nil) PySem.W.BT.nil) (PySem.W.BT.node (hd.o_100 P) (PySem.W.BT.node (hd.o_138 P) PySem.W.BT.nil PySem.W.BT.nil) PySem.W.BT.nil)))) (PySem.W.BT.node (PySem.W.boot_o_6 P) (PySem.W.BT.node (PySem.W.boot_o_10 P) (PySem.W.BT.node (hd.o_55 P) (PySem.W.BT.node (hd.o_71 P) (PySem.W.BT.node (hd.o_109 P) PySem.W.BT.nil PySem.W.BT.nil) (PySem.W.BT.node (hd.o_144 P) PySem.W.BT.nil PySem.W.BT.nil)) (PySem.W.BT.node (hd.o_90 P) (PySem.W.BT.node (hd.o_128 P) PySem.W.BT.nil PySem.W.BT.nil) PySem.W.BT.nil)) (PySem.W.BT.node (hd.o_63 P) (PySem.W.BT.node (hd.o_79 P) (PySem.W.BT.node (hd.o_117 P) PySem.W.BT.nil PySem.W.BT.nil) PySem.W.BT.nil) (PySem.W.BT.node (hd.o_98 P) (PySem.W.BT.node (hd.o_136 P) PySem.W.BT.nil PySem.W.BT.nil) PySem.W.BT.nil))) (PySem.W.BT.node (hd.o_46 P) (PySem.W.BT.node (hd.o_59 P) (PySem.W.BT.node (hd.o_75 P) (PySem.W.BT.node (hd.o_113 P) PySem.W.BT.nil PySem.W.BT.nil) PySem.W.BT.nil) (PySem.W.BT.node (hd.o_94 P) (PySem.W.BT.node (hd.o_132 P) PySem.W.BT.nil PySem.W.BT.nil) PySem.W.BT.nil)) (PySem.W.BT.node (hd.o_67 P) (PySem.W.BT.node (hd.o_86 P) (PySem.W.BT.node (hd.o_121 P) PySem.W.BT.nil PySem.W.BT.nil) PySem.W.BT.nil) (PySem.W.BT.node (hd.o_105 P) (PySem.W.BT.node (hd.o_140 P) PySem.W.BT.nil PySem.W.BT.nil) PySem.W.BT.nil)))))))
noncomputable abbrev hd.sts_148 : List PySem.Stmt := ((PySem.W.behindTheImports pE).drop 5).take 6
noncomputable abbrev hd.tree_195 : PySem.Params → PySem.W.BT := (fun (P : PySem.Params) => (PySem.W.BT.node (PySem.W.boot_o_0 P) (PySem.W.BT.node (PySem.W.boot_o_1 P) (PySem.W.BT.node (hd.o_148 P) (PySem.W.BT.node (PySem.W.boot_o_7 P) (PySem.W.BT.node (hd.o_52 P) (PySem.W.BT.node (hd.o_68 P) (PySem.W.BT.node (hd.o_106 P) (PySem.W.BT.node (hd.o_176 P) PySem.W.BT.nil PySem.W.BT.nil) PySem.W.BT.nil) (PySem.W.BT.node (hd.o_141 P) PySem.W.BT.nil PySem.W.BT.nil)) (PySem.W.BT.node (hd.o_87 P) (PySem.W.BT.node (hd.o_122 P) (PySem.W.BT.node (hd.o_192 P) PySem.W.BT.nil PySem.W.BT.nil) PySem.W.BT.nil) (PySem.W.BT.node (hd.o_160 P) PySem.W.BT.nil PySem.W.BT.nil))) (PySem.W.BT.node (hd.o_60 P) (PySem.W.BT.node (hd.o_150 P) (PySem.W.BT.node (hd.o_114 P) (PySem.W.BT.node (hd.o_184 P) PySem.W.BT.nil PySem.W.BT.nil) PySem.W.BT.nil) (PySem.W.BT.node (hd.o_152 P) PySem.W.BT.nil PySem.W.BT.nil)) (PySem.W.BT.node (hd.o_95 P) (PySem.W.BT.node (hd.o_133 P) PySem.W.BT.nil PySem.W.BT.nil) (PySem.W.BT.node (hd.o_168 P) PySem.W.BT.nil PySem.W.BT.nil)))) (PySem.W.BT.node (hd.o_43 P) (PySem.W.BT.node (hd.o_56 P) (PySem.W.BT.node (hd.o_72 P) (PySem.W.BT.node (hd.o_110 P) (PySem.W.BT.node (hd.o_180 P) PySem.W.BT.nil PySem.W.BT.nil) PySem.W.BT.nil) (PySem.W.BT.node (hd.o_145 P) PySem.W.BT.nil PySem.W.BT.nil)) (PySem.W.BT.node (hd.o_91 P) (PySem.W.BT.node (hd.o_129 P) PySem.W.BT.nil PySem.W.BT.nil) (PySem.W.BT.node (hd.o_164 P) PySem.W.BT.nil PySem.W.BT.nil))) (PySem.W.BT.node (hd.o_64 P) (PySem.W.BT.node (hd.o_83 P) (PySem.W.BT.node (hd.o_118 P) (PySem.W.BT.node (hd.o_188 P) PySem.W.BT.nil PySem.W.BT.nil) PySem.W.BT.nil) (PySem.W.BT.node (hd.o_156 P) PySem.W.BT.nil PySem.W.BT.nil)) (PySem.W.BT.node (hd.o_99 P) (PySem.W.BT.node (hd.o_137 P) PySem.W.BT.nil PySem.W.BT.nil) (PySem.W.BT.node (hd.o_172 P) PySem.W.BT.nil PySem.W.BT.nil))))) (PySem.W.BT.node (PySem.W.boot_o_5 P) (PySem.W.BT.node (PySem.W.boot_o_9 P) (PySem.W.BT.node (hd.o_54 P) (PySem.W.BT.node (hd.o_70 P) (PySem.W.BT.node (hd.o_108 P) (PySem.W.BT.node (hd.o_178 P) PySem.W.BT.nil PySem.W.BT.nil) PySem.W.BT.nil) (PySem.W.BT.node (hd.o_143 P) PySem.W.BT.nil PySem.W.BT.nil)) (PySem.W.BT.node (hd.o_89 P) (PySem.W.BT.node (hd.o_124 P) (PySem.W.BT.node (hd.o_194 P) PySem.W.BT.nil PySem.W.BT.nil) PySem.W.BT.nil) (PySem.W.BT.node (hd.o_162 P) PySem.W.BT.nil PySem.W.BT.nil))) (PySem.W.BT.node (hd.o_62 P) (PySem.W.BT.node (hd.o_78 P) (PySem.W.BT.node (hd.o_116 P) (PySem.W.BT.node (hd.o_186 P) PySem.W.BT.nil PySem.W.BT.nil) PySem.W.BT.nil) (PySem.W.BT.node (hd.o_154 P) PySem.W.BT.nil PySem.W.BT.nil)) (PySem.W.BT.node (hd.o_97 P) (PySem.W.BT.node (hd.o_135 P) PySem.W.BT.nil PySem.W.BT.nil) (PySem.W.BT.node (hd.o_170 P) PySem.W.BT.nil PySem.W.BT.nil)))) (PySem.W.BT.node (hd.o_45 P) (PySem.W.BT.node (hd.o_58 P) (PySem.W.BT.node (hd.o_74 P) (PySem.W.BT.node (hd.o_112 P) (PySem.W.BT.node (hd.o_182 P) PySem.W.BT.nil PySem.W.BT.nil) PySem.W.BT.nil) (PySem.W.BT.node (hd.o_147 P) PySem.W.BT.nil PySem.W.BT.nil)) (PySem.W.BT.node (hd.o_93 P) (PySem.W.BT.node (hd.o_131 P) PySem.W.BT.nil PySem.W.BT.nil) (PySem.W.BT.node (hd.o_166 P) PySem.W.BT.nil PySem.W.BT.nil))) (PySem.W.BT.node (hd.o_66 P) (PySem.W.BT.node (hd.o_85 P) (PySem.W.BT.node (hd.o_120 P) (PySem.W.BT.node (hd.o_190 P) PySem.W.BT.nil PySem.W.BT.nil) PySem.W.BT.nil) (PySem.W.BT.node (hd.o_158 P) PySem.W.BT.nil PySem.W.BT.nil)) (PySem.W.BT.node (hd.o_101 P) (PySem.W.BT.node (hd.o_139 P) PySem.W.BT.nil PySem.W.BT.nil) (PySem.W.BT.node (hd.o_174 P) PySem.W.BT.nil PySem.W.BT.nil)))))) (PySem.W.BT.node (hd.o_49 P) (PySem.W.BT.node (PySem.W.boot_o_4 P) (PySem.W.BT.node (PySem.W.boot_o_8 P) (PySem.W.BT.node (hd.o_53 P) (PySem.W.BT.node (hd.o_69 P) (PySem.W.BT.node (hd.o_107 P) (PySem.W.BT.node (hd.o_177 P) PySem.W.BT.nil PySem.W.BT.nil) PySem.W.BT.nil) (PySem.W.BT.node (hd.o_142 P) PySem.W.BT.nil PySem.W.BT.nil)) (PySem.W.BT.node (hd.o_88 P) (PySem.W.BT.node (hd.o_123 P) (PySem.W.BT.node (hd.o_193 P) PySem.W.BT.nil PySem.W.BT.nil) PySem.W.BT.nil) (PySem.W.BT.node (hd.o_161 P) PySem.W.BT.nil PySem.W.BT.nil))) (PySem.W.BT.node (hd.o_61 P) (PySem.W.BT.node (hd.o_77 P) (PySem.W.BT.node (hd.o_115 P) (PySem.W.BT.node (hd.o_185 P) PySem.W.BT.nil PySem.W.BT.nil) PySem.W.BT.nil) (PySem.W.BT.node (hd.o_153 P) PySem.W.BT.nil PySem.W.BT.nil)) (PySem.W.BT.node (hd.o_96 P) (PySem.W.BT.node (hd.o_134 P) PySem.W.BT.nil PySem.W.BT.nil) (PySem.W.BT.node (hd.o_169 P) PySem.W.BT.nil PySem.W.BT.nil)))) (PySem.W.BT.node (hd.o_149 P) (PySem.W.BT.node (hd.o_57 P) (PySem.W.BT.node (hd.o_73 P) (PySem.W.BT.node (hd.o_111 P) (PySem.W.BT.node (hd.o_181 P) PySem.W.BT.nil PySem.W.BT.nil) PySem.W.BT.nil) (PySem.W.BT.node (hd.o_146 P) PySem.W.BT.nil PySem.W.BT.nil)) (PySem.W.BT.node (hd.o_92 P) (PySem.W.BT.node (hd.o_130 P) PySem.W.BT.nil PySem.W.BT.nil) (PySem.W.BT.node (hd.o_165 P) PySem.W.BT.nil PySem.W.BT.nil))) (PySem.W.BT.node (hd.o_65 P) (PySem.W.BT.node (hd.o_84 P) (PySem.W.BT.node (hd.o_119 P) (PySem.W.BT.node (hd.o_189 P) PySem.W.BT.nil PySem.W.BT.nil) PySem.W.BT.nil) (PySem.W.BT.node (hd.o_157 P) PySem.W.BT.nil PySem.W.BT.nil)) (PySem.W.BT.node (hd.o_100 P) (PySem.W.BT.node (hd.o_138 P) PySem.W.BT.nil PySem.W.BT.nil) (PySem.W.BT.node (hd.o_173 P) PySem.W.BT.nil PySem.W.BT.nil))))) (PySem.W.BT.node (PySem.W.boot_o_6 P) (PySem.W.BT.node (PySem.W.boot_o_10 P) (PySem.W.BT.node (hd.o_55 P) (PySem.W.BT.node (hd.o_71 P) (PySem.W.BT.node (hd.o_109 P) (PySem.W.BT.node (hd.o_179 P) PySem.W.BT.nil PySem.W.BT.nil) PySem.W.BT.nil) (PySem.W.BT.node (hd.o_144 P) PySem.W.BT.nil PySem.W.BT.nil)) (PySem.W.BT.node (hd.o_90 P) (PySem.W.BT.node (hd.o_128 P) (PySem.W.BT.node (hd.o_195 P) PySem.W.BT.nil PySem.W.BT.nil) PySem.W.BT.nil) (PySem.W.BT.node (hd.o_163 P) PySem.W.BT.nil PySem.W.BT.nil))) (PySem.W.BT.node (hd.o_63 P) (PySem.W.BT.node (hd.o_79 P) (PySem.W.BT.node (hd.o_117 P) (PySem.W.BT.node (hd.o_187 P) PySem.W.BT.nil PySem.W.BT.nil) PySem.W.BT.nil) (PySem.W.BT.node (hd.o_155 P) PySem.W.BT.nil PySem.W.BT.nil)) (PySem.W.BT.node (hd.o_98 P) (PySem.W.BT.node (hd.o_136 P) PySem.W.BT.nil PySem.W.BT.nil) (PySem.W.BT.node (hd.o_171 P) PySem.W.BT.nil PySem.W.BT.nil)))) (PySem.W.BT.node (hd.o_46 P) (PySem.W.BT.node (hd.o_59 P) (PySem.W.BT.node (hd.o_75 P) (PySem.W.BT.node (hd.o_113 P) (PySem.W.BT.node (hd.o_183 P) PySem.W.BT.nil PySem.W.BT.nil) PySem.W.BT.nil) (PySem.W.BT.node (hd.o_151 P) PySem.W.BT.nil PySem.W.BT.nil)) (PySem.W.BT.node (hd.o_94 P) (PySem.W.BT.node (hd.o_132 P) PySem.W.BT.nil PySem.W.BT.nil) (PySem.W.BT.node (hd.o_167 P) PySem.W.BT.nil PySem.W.BT.nil))) (PySem.W.BT.node (hd.o_67 P) (PySem.W.BT.node (hd.o_86 P) (PySem.W.BT.node (hd.o_121 P) (PySem.W.BT.node (hd.o_191 P) PySem.W.BT.nil PySem.W.BT.nil) PySem.W.BT.nil) (PySem.W.BT.node (hd.o_159 P) PySem.W.BT.nil PySem.W.BT.nil)) (PySem.W.BT.node (hd.o_105 P) (PySem.W.BT.node (hd.o_140 P) PySem.W.BT.nil PySem.W.BT.nil) (PySem.W.BT.node (hd.o_175 P) PySem.W.BT.nil PySem.W.BT.nil))))))))
noncomputable abbrev hd.sts_196 : List PySem.Stmt := ((PySem.W.behindTheImports pE).drop 11).take 2
noncomputable abbrev hd.tree_211 : PySem.Params → PySem.W.BT := (fun (P : PySem.Params) => (PySem.W.BT.node (PySem.W.boot_o_0 P) (PySem.W.BT.node (PySem.W.boot_o_1 P) (PySem.W.BT.node (hd.o_196 P) (PySem.W.BT.node (PySem.W.boot_o_7 P) (PySem.W.BT.node (hd.o_52 P) (PySem.W.BT.node (hd.o_68 P) (PySem.W.BT.node (hd.o_106 P) (PySem.W.BT.node (hd.o_176 P) PySem.W.BT.nil PySem.W.BT.nil) PySem.W.BT.nil) (PySem.W.BT.node (hd.o_141 P) (PySem.W.BT.node (hd.o_210 P) PySem.W.BT.nil PySem.W.BT.nil) PySem.W.BT.nil)) (PySem.W.BT.node (hd.o_87 P) (PySem.W.BT.node (hd.o_122 P) (PySem.W.BT.node (hd.o_192 P) PySem.W.BT.nil PySem.W.BT.nil) PySem.W.BT.nil) (PySem.W.BT.node (hd.o_160 P) PySem.W.BT.nil PySem.W.BT.nil))) (PySem.W.BT.node (hd.o_60 P) (PySem.W.BT.node (hd.o_150 P) (PySem.W.BT.node (hd.o_114 P) (PySem.W.BT.node (hd.o_184 P) PySem.W.BT.nil PySem.W.BT.nil) PySem.W.BT.nil) (PySem.W.BT.node (hd.o_152 P) PySem.W.BT.nil PySem.W.BT.nil)) (PySem.W.BT.node (hd.o_95 P) (PySem.W.BT.node (hd.o_133 P) (PySem.W.BT.node (hd.o_202 P) PySem.W.BT.nil PySem.W.BT.nil) PySem.W.BT.nil) (PySem.W.BT.node (hd.o_168 P) PySem.W.BT.nil PySem.W.BT.nil)))) (PySem.W.BT.node (hd.o_43 P) (PySem.W.BT.node (hd.o_56 P) (PySem.W.BT.node (hd.o_72 P) (PySem.W.BT.node (hd.o_110 P) (PySem.W.BT.node (hd.o_180 P) PySem.W.BT.nil PySem.W.BT.nil) PySem.W.BT.nil) (PySem.W.BT.node (hd.o_145 P) PySem.W.BT.nil PySem.W.BT.nil)) (PySem.W.BT.node (hd.o_91 P) (PySem.W.BT.node (hd.o_129 P) (PySem.W.BT.node (hd.o_198 P) PySem.W.BT.nil PySem.W.BT.nil) PySem.W.BT.nil) (PySem.W.BT.node (hd.o_164 P) PySem.W.BT.nil PySem.W.BT.nil))) (PySem.W.BT.node (hd.o_64 P) (PySem.W.BT.node (hd.o_83 P) (PySem.W.BT.node (hd.o_118 P) (PySem.W.BT.node (hd.o_188 P) PySem.W.BT.nil PySem.W.BT.nil) PySem.W.BT.nil) (PySem.W.BT.node (hd.o_156 P) PySem.W.BT.nil PySem.W.BT.nil)) (PySem.W.BT.node (hd.o_99 P) (PySem.W.BT.node (hd.o_137 P) (PySem.W.BT.node (hd.o_206 P) PySem.W.BT.nil PySem.W.BT.nil) PySem.W.BT.nil) (PySem.W.BT.node (hd.o_172 P) PySem.W.BT.nil PySem.W.BT.nil))))) (PySem.W.BT.node (PySem.W.boot_o_5 P) (PySem.W.BT.node (PySem.W.boot_o_9 P) (PySem.W.BT.node (hd.o_54 P) (PySem.W.BT.node (hd.o_70 P) (PySem.W.BT.node (hd.o_108 P) (PySem.W.BT.node (hd.o_178 P) PySem.W.BT.nil PySem.W.BT.nil) PySem.W.BT.nil) (PySem.W.BT.node (hd.o_143 P) PySem.W.BT.nil PySem.W.BT.nil)) (PySem.W.BT.node (hd.o_89 P) (PySem.W.BT.node (hd.o_124 P) (PySem.W.BT.node (hd.o_194 P) PySem.W.BT.nil PySem.W.BT.nil) PySem.W.BT.nil) (PySem.W.BT.node (hd.o_162 P) PySem.W.BT.nil PySem.W.BT.nil))) (PySem.W.BT.node (hd.o_62 P) (PySem.W.BT.node (hd.o_78 P) (PySem.W.BT.node (hd.o_116 P) (PySem.W.BT.node (hd.o_186 P) PySem.W.BT.nil PySem.W.BT.nil) PySem.W.BT.nil) (PySem.W.BT.node (hd.o_154 P) PySem.W.BT.nil PySem.W.BT.nil)) (PySem.W.BT.node (hd.o_97 P) (PySem.W.BT.node (hd.o_135 P) (PySem.W.BT.node (hd.o_204 P) PySem.W.BT.nil PySem.W.BT.nil) PySem.W.BT.nil) (PySem.W.BT.node (hd.o_170 P) PySem.W.BT.nil PySem.W.BT.nil)))) (PySem.W.BT.node (hd.o_45 P) (PySem.W.BT.node (hd.o_58 P) (PySem.W.BT.node (hd.o_74 P) (PySem.W.BT.node (hd.o_112 P) (PySem.W.BT.node (hd.o_182 P) PySem.W.BT.nil PySem.W.BT.nil) PySem.W.BT.nil) (PySem.W.BT.node (hd.o_147 P) PySem.W.BT.nil PySem.W.BT.nil)) (PySem.W.BT.node (hd.o_93 P) (PySem.W.BT.node (hd.o_131 P) (PySem.W.BT.node (hd.o_200 P) PySem.W.BT.nil PySem.W.BT.nil) PySem.W.BT.nil) (PySem.W.BT.node (hd.o_166 P) PySem.W.BT.nil PySem.W.BT.nil))) (PySem.W.BT.node (hd.o_66 P) (PySem.W.BT.node (hd.o_85 P) (PySem.W.BT.node (hd.o_120 P) (PySem.W.BT.node (hd.o_190 P) PySem.W.BT.nil PySem.W.BT.nil) PySem.W.BT.nil) (PySem.W.BT.node (hd.o_158 P) PySem.W.BT.nil PySem.W.BT.nil)) (PySem.W.BT.node (hd.o_101 P) (PySem.W.BT.node (hd.o_139 P) (PySem.W.BT.node (hd.o_208 P) PySem.W.BT.nil PySem.W.BT.nil) PySem.W.BT.nil) (PySem.W.BT.node (hd.o_174 P) PySem.W.BT.nil PySem.W.BT.nil)))))) (PySem.W.BT.node (hd.o_49 P) (PySem.W.BT.node (PySem.W.boot_o_4 P) (PySem.W.BT.node (PySem.W.boot_o_8 P) (PySem.W.BT.node (hd.o_53 P) (PySem.W.BT.node (hd.o_69 P) (PySem.W.BT.node (hd.o_107 P) (PySem.W.BT.node (hd.o_177 P) PySem.W.BT.nil PySem.W.BT.nil) PySem.W.BT.nil) (PySem.W.BT.node (hd.o_142 P) (PySem.W.BT.node (hd.o_211 P) PySem.W.BT.nil PySem.W.BT.nil) PySem.W.BT.nil)) (PySem.W.BT.node (hd.o_88 P) (PySem.W.BT.node (hd.o_123 P) (PySem.W.BT.node (hd.o_193 P) PySem.W.BT.nil PySem.W.BT.nil) PySem.W.BT.nil) (PySem.W.BT.node (hd.o_161 P) PySem.W.BT.nil PySem.W.BT.nil))) (PySem.W.BT.node (hd.o_61 P) (PySem.W.BT.node (hd.o_77 P) (PySem.W.BT.node (hd.o_115 P) (PySem.W.BT.node (hd.o_185 P) PySem.W.BT.nil PySem.W.BT.nil) PySem.W.BT.nil) (PySem.W.BT.node (hd.o_153 P) PySem.W.BT.nil PySem.W.BT.nil)) (PySem.W.BT.node (hd.o_96 P) (PySem.W.BT.node (hd.o_134 P) (PySem.W.BT.node (hd.o_203 P) PySem.W.BT.nil PySem.W.BT.nil) PySem.W.BT.nil) (PySem.W.BT.node (hd.o_169 P) PySem.W.BT.nil PySem.W.BT.nil)))) (PySem.W.BT.node (hd.o_197 P) (PySem.W.BT.node (hd.o_57 P) (PySem.W.BT.node (hd.o_73 P) (PySem.W.BT.node (hd.o_111 P) (PySem.W.BT.node (hd.o_181 P) PySem.W.BT.nil PySem.W.BT.nil) PySem.W.BT.nil) (PySem.W.BT.node (hd.o_146 P) PySem.W.BT.nil PySem.W.BT.nil)) (PySem.W.BT.node (hd.o_92 P) (PySem.W.BT.node (hd.o_130 P) (PySem.W.BT.node (hd.o_199 P) PySem.W.BT.nil PySem.W.BT.nil) PySem.W.BT.nil) (PySem.W.BT.node (hd.o_165 P) PySem.W.BT.nil PySem.W.BT.nil))) (PySem.W.BT.node (hd.o_65 P) (PySem.W.BT.node (hd.o_84 P) (PySem.W.BT.node (hd.o_119 P) (PySem.W.BT.node (hd.o_189 P) PySem.W.BT.nil PySem.W.BT.nil) PySem.W.BT.nil) (PySem.W.BT.node (hd.o_157 P) PySem.W.BT.nil PySem.W.BT.nil)) (PySem.W.BT.node (hd.o_100 P) (PySem.W.BT.node (hd.o_138 P) (PySem.W.BT.node (hd.o_207 P) PySem.W.BT.nil PySem.W.BT.nil) PySem.W.BT.nil) (PySem.W.BT.node (hd.o_173 P) PySem.W.BT.nil PySem.W.BT.nil))))) (PySem.W.BT.node (PySem.W.boot_o_6 P) (PySem.W.BT.node (PySem.W.boot_o_10 P) (PySem.W.BT.node (hd.o_55 P) (PySem.W.BT.node (hd.o_71 P) (PySem.W.BT.node (hd.o_109 P) (PySem.W.BT.node (hd.o_179 P) PySem.W.BT.nil PySem.W.BT.nil) PySem.W.BT.nil) (PySem.W.BT.node (hd.o_144 P) PySem.W.BT.nil PySem.W.BT.nil)) (PySem.W.BT.node (hd.o_90 P) (PySem.W.BT.node (hd.o_128 P) (PySem.W.BT.node (hd.o_195 P) PySem.W.BT.nil PySem.W.BT.nil) PySem.W.BT.nil) (PySem.W.BT.node (hd.o_163 P) PySem.W.BT.nil PySem.W.BT.nil))) (PySem.W.BT.node (hd.o_63 P) (PySem.W.BT.node (hd.o_79 P) (PySem.W.BT.node (hd.o_117 P) (PySem.W.BT.node (hd.o_187 P) PySem.W.BT.nil PySem.W.BT.nil) PySem.W.BT.nil) (PySem.W.BT.node (hd.o_155 P) PySem.W.BT.nil PySem.W.BT.nil)) (PySem.W.BT.node (hd.o_98 P) (PySem.W.BT.node (hd.o_136 P) (PySem.W.BT.node (hd.o_205 P) PySem.W.BT.nil PySem.W.BT.nil) PySem.W.BT.nil) (PySem.W.BT.node (hd.o_171 P) PySem.W.BT.nil PySem.W.BT.nil)))) (PySem.W.BT.node (hd.o_46 P) (PySem.W.BT.node (hd.o_59 P) (PySem.W.BT.node (hd.o_75 P) (PySem.W.BT.node (hd.o_113 P) (PySem.W.BT.node (hd.o_183 P) PySem.W.BT.nil PySem.W.BT.nil) PySem.W.BT.nil) (PySem.W.BT.node (hd.o_151 P) PySem.W.BT.nil PySem.W.BT.nil)) (PySem.W.BT.node (hd.o_94 P) (PySem.W.BT.node (hd.o_132 P) (PySem.W.BT.node (hd.o_201 P) PySem.W.BT.nil PySem.W.BT.nil) PySem.W.BT.nil) (PySem.W.BT.node (hd.o_167 P) PySem.W.BT.nil PySem.W.BT.nil))) (PySem.W.BT.node (hd.o_67 P) (PySem.W.BT.node (hd.o_86 P) (PySem.W.BT.node (hd.o_121 P) (PySem.W.BT.node (hd.o_191 P) PySem.W.BT.nil PySem.W.BT.nil) PySem.W.BT.nil) (PySem.W.BT.node (hd.o_159 P) PySem.W.BT.nil PySem.W.BT.nil)) (PySem.W.BT.node (hd.o_105 P) (PySem.W.BT.node (hd.o_140 P) (PySem.W.BT.node (hd.o_209 P) PySem.W.BT.nil PySem.W.BT.nil) PySem.W.BT.nil) (PySem.W.BT.node (hd.o_175 P) PySem.W.BT.nil PySem.W.BT.nil))))))))
noncomputable abbrev hd.heap_212 : (∀ (x : PySem.Params), PySem.Heap) := (fun (P : PySem.Params) => (PySem.Heap.mk (Array.mk ((PySem.W.boot_o_0 P) :: (PySem.W.boot_o_1 P) :: (hd.o_49 P) :: (hd.o_196 P) :: (PySem.W.boot_o_4 P) :: (PySem.W.boot_o_5 P) :: (PySem.W.boot_o_6 P) :: (PySem.W.boot_o_7 P) :: (PySem.W.boot_o_8 P) :: (PySem.W.boot_o_9 P) :: (PySem.W.boot_o_10 P) :: (hd.o_43 P) :: (hd.o_197 P) :: (hd.o_45 P) :: (hd.o_46 P) :: (hd.o_52 P) :: (hd.o_53 P) :: (hd.o_54 P) :: (hd.o_55 P) :: (hd.o_56 P) :: (hd.o_57 P) :: (hd.o_58 P) :: (hd.o_59 P) :: (hd.o_60 P) :: (hd.o_61 P) :: (hd.o_62 P) :: (hd.o_63 P) :: (hd.o_64 P) :: (hd.o_65 P) :: (hd.o_66 P) :: (hd.o_67 P) :: (hd.o_68 P) :: (hd.o_69 P) :: (hd.o_70 P) :: (hd.o_71 P) :: (hd.o_72 P) :: (hd.o_73 P) :: (hd.o_74 P) :: (hd.o_75 P) :: (hd.o_150 P) :: (hd.o_77 P) :: (hd.o_78 P) :: (hd.o_79 P) :: (hd.o_83 P) :: (hd.o_84 P) :: (hd.o_85 P) :: (hd.o_86 P) :: (hd.o_87 P) :: (hd.o_88 P) :: (hd.o_89 P) :: (hd.o_90 P) :: (hd.o_91 P) :: (hd.o_92 P) :: (hd.o_93 P) :: (hd.o_94 P) :: (hd.o_95 P) :: (hd.o_96 P) :: (hd.o_97 P) :: (hd.o_98 P) :: (hd.o_99 P) :: (hd.o_100 P) :: (hd.o_101 P) :: (hd.o_105 P) :: (hd.o_106 P) :: (hd.o_107 P) :: (hd.o_108 P) :: (hd.o_109 P) :: (hd.o_110 P) :: (hd.o_111 P) :: (hd.o_112 P) :: (hd.o_113 P) :: (hd.o_114 P) :: (hd.o_115 P) :: (hd.o_116 P) :: (hd.o_117 P) :: (hd.o_118 P) :: (hd.o_119 P) :: (hd.o_120 P) :: (hd.o_121 P) :: (hd.o_122 P) :: (hd.o_123 P) :: (hd.o_124 P) :: (hd.o_128 P) :: (hd.o_129 P) :: (hd.o_130 P) :: (hd.o_131 P) :: (hd.o_132 P) :: (hd.o_133 P) :: (hd.o_134 P) :: (hd.o_135 P) :: (hd.o_136 P) :: (hd.o_137 P) :: (hd.o_138 P) :: (hd.o_139 P) :: (hd.o_140 P) :: (hd.o_141 P) :: (hd.o_142 P) :: (hd.o_143 P) :: (hd.o_144 P) :: (hd.o_145 P) :: (hd.o_146 P) :: (hd.o_147 P) :: (hd.o_151 P) :: (hd.o_152 P) :: (hd.o_153 P) :: (hd.o_154 P) :: (hd.o_155 P) :: (hd.o_156 P) :: (hd.o_157 P) :: (hd.o_158 P) :: (hd.o_159 P) :: (hd.o_160 P) :: (hd.o_161 P) :: (hd.o_162 P) :: (hd.o_163 P) :: (hd.o_164 P) :: (hd.o_165 P) :: (hd.o_166 P) :: (hd.o_167 P) :: (hd.o_168 P) :: (hd.o_169 P) :: (hd.o_170 P) :: (hd.o_171 P) :: (hd.o_172 P) :: (hd.o_173 P) :: (hd.o_174 P) :: (hd.o_175 P) :: (hd.o_176 P) :: (hd.o_177 P) :: (hd.o_178 P) :: (hd.o_179 P) :: (hd.o_180 P) :: (hd.o_181 P) :: (hd.o_182 P) :: (hd.o_183 P) :: (hd.o_184 P) :: (hd.o_185 P) :: (hd.o_186 P) :: (hd.o_187 P) :: (hd.o_188 P) :: (hd.o_189 P) :: (hd.o_190 P) :: (hd.o_191 P) :: (hd.o_192 P) :: (hd.o_193 P) :: (hd.o_194 P) :: (hd.o_195 P) :: (hd.o_198 P) :: (hd.o_199 P) :: (hd.o_200 P) :: (hd.o_201 P) :: (hd.o_202 P) :: (hd.o_203 P) :: (hd.o_204 P) :: (hd.o_205 P) :: (hd.o_206 P) :: (hd.o_207 P) :: (hd.o_208 P) :: (hd.o_209 P) :: (hd.o_210 P) :: (hd.o_211 P) :: [])) (PySem.Life.mk ([] : List Nat) ([] : List Nat) ([] : List Nat) 0 ([] : List (Prod Nat Nat)) ([] : List Nat) Bool.false #[] ([] : List Nat) 0 Bool.false Bool.false Bool.false (0 : Int) [(2000 : Int), (10 : Int), (10 : Int)] Bool.false 0 Bool.true ([] : List Nat) ([] : List Nat) 0 Bool.false)))
theorem hd.q_47 (w : PySem.World) : (((fun (os : PySem.OsState) => (PySem.W.topGo PySem.treeTable pE w 11 (Option.some (PySem.Value.ref 6)) 12 (PySem.Shared.mk (PySem.W.boot_heap (PySem.World.params w)) (Array.mk ([] : List PySem.GenState)) PySem.W.boot_drawn PySem.W.boot_toks os) (PySem.W.topStub pE)))) = ((fun (os : PySem.OsState) => (Option.some ((PySem.Shared.mk (hd.heap_46 (PySem.World.params w)) (Array.mk ([] : List PySem.GenState)) (PySem.Drawn.mk 0 0 0 0) 187 os), (PySem.Thread.mk (PySem.denote PySem.treeTable (PySem.Code.body (PySem.W.behindTheImports pE) hd.env_41)) (PySem.Code.body (PySem.W.behindTheImports pE) hd.env_41) (PySem.Pos.mk 0 0 0 0) [(PySem.W.topFrame (PySem.Pos.mk 0 0 0 0))])))))) := by rewrite [PySem.W.Fast.te15667345088766844465, PySem.W.Fast.te14364793385576792824, PySem.W.Fast.te11892475500146522536]; kernel_rfl
theorem hd.q_49 (w : PySem.World) : (((fun (os : PySem.OsState) => (PySem.W.segRun PySem.treeTable pE w 11 (Option.some (PySem.Value.ref 6)) 1 1 (PySem.Shared.mk (hd.heap_46 (PySem.World.params w)) (Array.mk ([] : List PySem.GenState)) (PySem.Drawn.mk 0 0 0 0) 187 os) (PySem.W.blockOf (PySem.W.behindTheImports pE) hd.env_41 (PySem.Code.body (PySem.W.behindTheImports pE) hd.env_41) (PySem.Pos.mk 0 0 0 0) [(PySem.W.topFrame (PySem.Pos.mk 0 0 0 0))])))) = ((fun (os : PySem.OsState) => (Option.some (PySem.Flow.next, ((PySem.W.SharedT.abs (PySem.W.SharedT.mk (hd.tree_47 (PySem.World.params w)) 15 (PySem.Life.mk ([] : List Nat) ([] : List Nat) ([] : List Nat) 0 ([] : List (Prod Nat Nat)) ([] : List Nat) Bool.false #[] ([] : List Nat) 0 Bool.false Bool.false Bool.false (0 : Int) [(2000 : Int), (10 : Int), (10 : Int)] Bool.false 0 Bool.true ([] : List Nat) ([] : List Nat) 0 Bool.false) (Array.mk ([] : List PySem.GenState)) (PySem.Drawn.mk 0 0 0 0) 187 os)), ((PySem.Code.body (PySem.W.behindTheImports pE) hd.env_41), (PySem.Pos.mk 0 0 0 0)))))))) := by rewrite [PySem.W.Fast.te14374325043358763698, PySem.W.Fast.te14364793385576792824]; kernel_rfl
theorem hd.q_80 (w : PySem.World) : (((fun (os : PySem.OsState) => (PySem.W.segRunT PySem.treeTable pE w 11 (Option.some (PySem.Value.ref 6)) 1 284 (PySem.W.SharedT.mk (hd.tree_47 (PySem.World.params w)) 15 (PySem.Life.mk ([] : List Nat) ([] : List Nat) ([] : List Nat) 0 ([] : List (Prod Nat Nat)) ([] : List Nat) Bool.false #[] ([] : List Nat) 0 Bool.false Bool.false Bool.false (0 : Int) [(2000 : Int), (10 : Int), (10 : Int)] Bool.false 0 Bool.true ([] : List Nat) ([] : List Nat) 0 Bool.false) (Array.mk ([] : List PySem.GenState)) (PySem.Drawn.mk 0 0 0 0) 187 os) (PySem.W.piecesOf hd.sts_49 hd.env_41 (PySem.Code.body (PySem.W.behindTheImports pE) hd.env_41) (PySem.Pos.mk 0 0 0 0) [(PySem.W.topFrame (PySem.Pos.mk 0 0 0 0))])))) = ((fun (os : PySem.OsState) => (Option.some (PySem.Flow.next, ((PySem.W.SharedT.mk (hd.tree_79 (PySem.World.params w)) 43 (PySem.Life.mk ([] : List Nat) ([] : List Nat) ([] : List Nat) 0 ([] : List (Prod Nat Nat)) ([] : List Nat) Bool.false #[] ([] : List Nat) 0 Bool.false Bool.false Bool.false (0 : Int) [(2000 : Int), (10 : Int), (10 : Int)] Bool.false 0 Bool.true ([] : List Nat) ([] : List Nat) 0 Bool.false) (Array.mk ([] : List PySem.GenState)) (PySem.Drawn.mk 0 0 0 0) 227 os), ((PySem.Code.body (PySem.W.behindTheImports pE) hd.env_41), (PySem.Pos.mk 2 0 10 22)))))))) := by rewrite [PySem.W.Fast.te10110043849684766642, PySem.W.Fast.te14364793385576792824]; kernel_rfl
theorem hd.q_102 (w : PySem.World) : (((fun (os : PySem.OsState) => (PySem.W.segRunT PySem.treeTable pE w 11 (Option.some (PySem.Value.ref 6)) 1 247 (PySem.W.SharedT.mk (hd.tree_79 (PySem.World.params w)) 43 (PySem.Life.mk ([] : List Nat) ([] : List Nat) ([] : List Nat) 0 ([] : List (Prod Nat Nat)) ([] : List Nat) Bool.false #[] ([] : List Nat) 0 Bool.false Bool.false Bool.false (0 : Int) [(2000 : Int), (10 : Int), (10 : Int)] Bool.false 0 Bool.true ([] : List Nat) ([] : List Nat) 0 Bool.false) (Array.mk ([] : List PySem.GenState)) (PySem.Drawn.mk 0 0 0 0) 227 os) (PySem.W.piecesOf hd.sts_80 hd.env_41 (PySem.Code.body (PySem.W.behindTheImports pE) hd.env_41) (PySem.Pos.mk 2 0 10 22) [(PySem.W.topFrame (PySem.Pos.mk 0 0 0 0))])))) = ((fun (os : PySem.OsState) => (Option.some (PySem.Flow.next, ((PySem.W.SharedT.mk (hd.tree_101 (PySem.World.params w)) 62 (PySem.Life.mk ([] : List Nat) ([] : List Nat) ([] : List Nat) 0 ([] : List (Prod Nat Nat)) ([] : List Nat) Bool.false #[] ([] : List Nat) 0 Bool.false Bool.false Bool.false (0 : Int) [(2000 : Int), (10 : Int), (10 : Int)] Bool.false 0 Bool.true ([] : List Nat) ([] : List Nat) 0 Bool.false) (Array.mk ([] : List PySem.GenState)) (PySem.Drawn.mk 0 0 0 0) 253 os), ((PySem.Code.body (PySem.W.behindTheImports pE) hd.env_41), (PySem.Pos.mk 11 0 16 30)))))))) := by rewrite [PySem.W.Fast.te10110043849684766642, PySem.W.Fast.te14364793385576792824]; kernel_rfl
theorem hd.q_125 (w : PySem.World) : (((fun (os : PySem.OsState) => (PySem.W.segRunT PySem.treeTable pE w 11 (Option.some (PySem.Value.ref 6)) 1 254 (PySem.W.SharedT.mk (hd.tree_101 (PySem.World.params w)) 62 (PySem.Life.mk ([] : List Nat) ([] : List Nat) ([] : List Nat) 0 ([] : List (Prod Nat Nat)) ([] : List Nat) Bool.false #[] ([] : List Nat) 0 Bool.false Bool.false Bool.false (0 : Int) [(2000 : Int), (10 : Int), (10 : Int)] Bool.false 0 Bool.true ([] : List Nat) ([] : List Nat) 0 Bool.false) (Array.mk ([] : List PySem.GenState)) (PySem.Drawn.mk 0 0 0 0) 253 os) (PySem.W.piecesOf hd.sts_102 hd.env_41 (PySem.Code.body (PySem.W.behindTheImports pE) hd.env_41) (PySem.Pos.mk 11 0 16 30) [(PySem.W.topFrame (PySem.Pos.mk 0 0 0 0))])))) = ((fun (os : PySem.OsState) => (Option.some (PySem.Flow.next, ((PySem.W.SharedT.mk (hd.tree_124 (PySem.World.params w)) 82 (PySem.Life.mk ([] : List Nat) ([] : List Nat) ([] : List Nat) 0 ([] : List (Prod Nat Nat)) ([] : List Nat) Bool.false #[] ([] : List Nat) 0 Bool.false Bool.false Bool.false (0 : Int) [(2000 : Int), (10 : Int), (10 : Int)] Bool.false 0 Bool.true ([] : List Nat) ([] : List Nat) 0 Bool.false) (Array.mk ([] : List PySem.GenState)) (PySem.Drawn.mk 0 0 0 0) 285 os), ((PySem.Code.body (PySem.W.behindTheImports pE) hd.env_41), (PySem.Pos.mk 17 0 34 45)))))))) := by rewrite [PySem.W.Fast.te10110043849684766642, PySem.W.Fast.te14364793385576792824]; kernel_rfl
theorem hd.q_148 (w : PySem.World) : (((fun (os : PySem.OsState) => (PySem.W.segRunT PySem.treeTable pE w 11 (Option.some (PySem.Value.ref 6)) 1 256 (PySem.W.SharedT.mk (hd.tree_124 (PySem.World.params w)) 82 (PySem.Life.mk ([] : List Nat) ([] : List Nat) ([] : List Nat) 0 ([] : List (Prod Nat Nat)) ([] : List Nat) Bool.false #[] ([] : List Nat) 0 Bool.false Bool.false Bool.false (0 : Int) [(2000 : Int), (10 : Int), (10 : Int)] Bool.false 0 Bool.true ([] : List Nat) ([] : List Nat) 0 Bool.false) (Array.mk ([] : List PySem.GenState)) (PySem.Drawn.mk 0 0 0 0) 285 os) (PySem.W.piecesOf hd.sts_125 hd.env_41 (PySem.Code.body (PySem.W.behindTheImports pE) hd.env_41) (PySem.Pos.mk 17 0 34 45) [(PySem.W.topFrame (PySem.Pos.mk 0 0 0 0))])))) = ((fun (os : PySem.OsState) => (Option.some (PySem.Flow.next, ((PySem.W.SharedT.mk (hd.tree_147 (PySem.World.params w)) 102 (PySem.Life.mk ([] : List Nat) ([] : List Nat) ([] : List Nat) 0 ([] : List (Prod Nat Nat)) ([] : List Nat) Bool.false #[] ([] : List Nat) 0 Bool.false Bool.false Bool.false (0 : Int) [(2000 : Int), (10 : Int), (10 : Int)] Bool.false 0 Bool.true ([] : List Nat) ([] : List Nat) 0 Bool.false) (Array.mk ([] : List PySem.GenState)) (PySem.Drawn.mk 0 0 0 0) 319 os), ((PySem.Code.body (PySem.W.behindTheImports pE) hd.env_41), (PySem.Pos.mk 35 0 53 53)))))))) := by rewrite [PySem.W.Fast.te10110043849684766642, PySem.W.Fast.te14364793385576792824]; kernel_rfl
theorem hd.q_196 (w : PySem.World) : (((fun (os : PySem.OsState) => (PySem.W.segRunT PySem.treeTable pE w 11 (Option.some (PySem.Value.ref 6)) 1 378 (PySem.W.SharedT.mk (hd.tree_147 (PySem.World.params w)) 102 (PySem.Life.mk ([] : List Nat) ([] : List Nat) ([] : List Nat) 0 ([] : List (Prod Nat Nat)) ([] : List Nat) Bool.false #[] ([] : List Nat) 0 Bool.false Bool.false Bool.false (0 : Int) [(2000 : Int), (10 : Int), (10 : Int)] Bool.false 0 Bool.true ([] : List Nat) ([] : List Nat) 0 Bool.false) (Array.mk ([] : List PySem.GenState)) (PySem.Drawn.mk 0 0 0 0) 319 os) (PySem.W.piecesOf hd.sts_148 hd.env_41 (PySem.Code.body (PySem.W.behindTheImports pE) hd.env_41) (PySem.Pos.mk 35 0 53 53) [(PySem.W.topFrame (PySem.Pos.mk 0 0 0 0))])))) = ((fun (os : PySem.OsState) => (Option.some (PySem.Flow.next, ((PySem.W.SharedT.mk (hd.tree_195 (PySem.World.params w)) 147 (PySem.Life.mk ([] : List Nat) ([] : List Nat) ([] : List Nat) 0 ([] : List (Prod Nat Nat)) ([] : List Nat) Bool.false #[] ([] : List Nat) 0 Bool.false Bool.false Bool.false (0 : Int) [(2000 : Int), (10 : Int), (10 : Int)] Bool.false 0 Bool.true ([] : List Nat) ([] : List Nat) 0 Bool.false) (Array.mk ([] : List PySem.GenState)) (PySem.Drawn.mk 0 0 0 0) 383 os), ((PySem.Code.body (PySem.W.behindTheImports pE) hd.env_41), (PySem.Pos.mk 97 0 98 64)))))))) := by rewrite [PySem.W.Fast.te10110043849684766642, PySem.W.Fast.te14364793385576792824]; kernel_rfl
theorem hd.q_212 (w : PySem.World) : (((fun (os : PySem.OsState) => (PySem.W.segRunT PySem.treeTable pE w 11 (Option.some (PySem.Value.ref 6)) 1 81 (PySem.W.SharedT.mk (hd.tree_195 (PySem.World.params w)) 147 (PySem.Life.mk ([] : List Nat) ([] : List Nat) ([] : List Nat) 0 ([] : List (Prod Nat Nat)) ([] : List Nat) Bool.false #[] ([] : List Nat) 0 Bool.false Bool.false Bool.false (0 : Int) [(2000 : Int), (10 : Int), (10 : Int)] Bool.false 0 Bool.true ([] : List Nat) ([] : List Nat) 0 Bool.false) (Array.mk ([] : List PySem.GenState)) (PySem.Drawn.mk 0 0 0 0) 383 os) (PySem.W.piecesOf hd.sts_196 hd.env_41 (PySem.Code.body (PySem.W.behindTheImports pE) hd.env_41) (PySem.Pos.mk 97 0 98 64) [(PySem.W.topFrame (PySem.Pos.mk 0 0 0 0))])))) = ((fun (os : PySem.OsState) => (Option.some (PySem.Flow.next, ((PySem.W.SharedT.mk (hd.tree_211 (PySem.World.params w)) 161 (PySem.Life.mk ([] : List Nat) ([] : List Nat) ([] : List Nat) 0 ([] : List (Prod Nat Nat)) ([] : List Nat) Bool.false #[] ([] : List Nat) 0 Bool.false Bool.false Bool.false (0 : Int) [(2000 : Int), (10 : Int), (10 : Int)] Bool.false 0 Bool.true ([] : List Nat) ([] : List Nat) 0 Bool.false) (Array.mk ([] : List PySem.GenState)) (PySem.Drawn.mk 0 0 0 0) 419 os), ((PySem.Code.body (PySem.W.behindTheImports pE) hd.env_41), (PySem.Pos.mk 132 0 152 29)))))))) := by rewrite [PySem.W.Fast.te10110043849684766642, PySem.W.Fast.te14364793385576792824]; kernel_rfl
theorem hd.q_214 (w : PySem.World) : (((fun (os : PySem.OsState) => (PySem.W.topRun PySem.treeTable pE w 11 (Option.some (PySem.Value.ref 6)) 2 (PySem.W.SharedT.abs (PySem.W.SharedT.mk (hd.tree_211 (PySem.World.params w)) 161 (PySem.Life.mk ([] : List Nat) ([] : List Nat) ([] : List Nat) 0 ([] : List (Prod Nat Nat)) ([] : List Nat) Bool.false #[] ([] : List Nat) 0 Bool.false Bool.false Bool.false (0 : Int) [(2000 : Int), (10 : Int), (10 : Int)] Bool.false 0 Bool.true ([] : List Nat) ([] : List Nat) 0 Bool.false) (Array.mk ([] : List PySem.GenState)) (PySem.Drawn.mk 0 0 0 0) 419 os)) (PySem.Thread.mk (PySem.W.doneF PySem.Flow.next) (PySem.Code.body (PySem.W.behindTheImports pE) hd.env_41) (PySem.Pos.mk 132 0 152 29) [(PySem.W.topFrame (PySem.Pos.mk 0 0 0 0))])))) = ((fun (os : PySem.OsState) => (Option.some (PySem.Shared.mk (hd.heap_212 (PySem.World.params w)) (Array.mk ([] : List PySem.GenState)) (PySem.Drawn.mk 0 0 0 0) 419 os))))) := by rewrite [PySem.W.Fast.te14082659384304107361, PySem.W.Fast.te14364793385576792824]; kernel_rfl
theorem hd.q_217 (w : PySem.World) : ((((Bool.and (PySem.Heap.isNs (PySem.W.boot_heap (PySem.World.params w)) PySem.mainGlobals) (BEq.beq (Array.size (Array.mk ([] : List PySem.GenState))) 0)), ((Array.size (PySem.Heap.objs (PySem.W.boot_heap (PySem.World.params w)))), (PySem.Heap.nsMap (PySem.W.boot_heap (PySem.World.params w)) PySem.mainGlobals (PySem.Str.ofString "__annotations__"))))) = ((Bool.true, (11, (Option.some (PySem.Value.ref 6)))))) := by rewrite [PySem.W.Fast.te8920871248978507458]; kernel_rfl
theorem hd.q_219 (w : PySem.World) : (((fun (os : PySem.OsState) => (Bool.and (Bool.and (Bool.and (PySem.W.staticsOk (PySem.importedModules (PySem.Module.body (PySem.Program.main pE))) (PySem.W.boot_heap (PySem.World.params w)) (hd.heap_212 (PySem.World.params w))) (PySem.W.namesBound pE (hd.heap_212 (PySem.World.params w)))) (PySem.W.gensDone (PySem.Shared.mk (hd.heap_212 (PySem.World.params w)) (Array.mk ([] : List PySem.GenState)) (PySem.Drawn.mk 0 0 0 0) 419 os))) (PySem.W.laidKept (PySem.W.boot_heap (PySem.World.params w)) (hd.heap_212 (PySem.World.params w)))))) = ((fun (os : PySem.OsState) => Bool.true))) := by rewrite [PySem.W.Fast.te5923862056798008813]; kernel_rfl
theorem hd.q_221 (w : PySem.World) : (((fun (os : PySem.OsState) => (PyProof.Rows.seen (List.map (fun (x : PySem.DefRec) => (PySem.DefRec.name x)) (PyProof.Rows.recsOf hd.view_39)) (PyProof.Rows.ownsOf hd.view_39) ([] : List PySem.Str) (PySem.Shared.mk (PySem.Shared.heap (PySem.Shared.mk (hd.heap_212 (PySem.World.params w)) (Array.mk ([] : List PySem.GenState)) (PySem.Drawn.mk 0 0 0 0) 419 os)) #[] (PySem.Shared.drawn (PySem.Shared.mk (hd.heap_212 (PySem.World.params w)) (Array.mk ([] : List PySem.GenState)) (PySem.Drawn.mk 0 0 0 0) 419 os)) (PySem.Shared.toks (PySem.Shared.mk (hd.heap_212 (PySem.World.params w)) (Array.mk ([] : List PySem.GenState)) (PySem.Drawn.mk 0 0 0 0) 419 os)) (PySem.Shared.os (PySem.Shared.mk (hd.heap_212 (PySem.World.params w)) (Array.mk ([] : List PySem.GenState)) (PySem.Drawn.mk 0 0 0 0) 419 os)))))) = ((fun (os : PySem.OsState) => (PyProof.Rows.expectedOf hd.view_39)))) := by rewrite [PySem.W.Fast.te5160383126252970620, PySem.W.R.mapR_eq, PySem.W.Fast.te3399658132070893891, PySem.W.Fast.te5991557255702980513]; kernel_rfl
theorem hd.q_223 (w : PySem.World) : (((fun (os : PySem.OsState) => (PySem.Heap.bltView (PySem.Shared.heap (PySem.Shared.mk (hd.heap_212 (PySem.World.params w)) (Array.mk ([] : List PySem.GenState)) (PySem.Drawn.mk 0 0 0 0) 419 os))))) = ((fun (os : PySem.OsState) => PySem.bltViewBooted))) := by kernel_rfl
theorem hd.q_225 (w : PySem.World) : (((fun (os : PySem.OsState) => (Bool.and (Bool.and (Bool.and (Bool.and (Bool.and (Bool.and (PySem.Heap.keysOk (PySem.Shared.heap (PySem.Shared.mk (hd.heap_212 (PySem.World.params w)) (Array.mk ([] : List PySem.GenState)) (PySem.Drawn.mk 0 0 0 0) 419 os)) (PySem.W.looseW hd.view_39 [(PySem.Str.ofString "Error"), (PySem.Str.ofString "DuplicateSectionError"), (PySem.Str.ofString "DuplicateOptionError")]) (List.map (fun (x : PySem.DefRec) => (PySem.DefRec.name x)) (PyProof.Rows.recsOf hd.view_39)) (List.map (fun (x : (Prod PySem.Str PySem.PyData)) => (Prod.fst x)) (PyProof.Rows.litsOf hd.view_39)) (List.map (fun (x : PySem.ClsRec) => (PySem.ClsRec.name x)) (PyProof.Rows.clssOf hd.view_39 (PySem.W.looseW hd.view_39 [(PySem.Str.ofString "Error"), (PySem.Str.ofString "DuplicateSectionError"), (PySem.Str.ofString "DuplicateOptionError")])))) (PySem.Heap.accountedOkI (PySem.Shared.heap (PySem.Shared.mk (hd.heap_212 (PySem.World.params w)) (Array.mk ([] : List PySem.GenState)) (PySem.Drawn.mk 0 0 0 0) 419 os)) (PySem.importedModules (PySem.Module.body (PySem.Program.main pE))))) (PySem.Heap.isNs (PySem.Shared.heap (PySem.Shared.mk (hd.heap_212 (PySem.World.params w)) (Array.mk ([] : List PySem.GenState)) (PySem.Drawn.mk 0 0 0 0) 419 os)) PySem.mainGlobals)) (PySem.Heap.isNs (PySem.Shared.heap (PySem.Shared.mk (hd.heap_212 (PySem.World.params w)) (Array.mk ([] : List PySem.GenState)) (PySem.Drawn.mk 0 0 0 0) 419 os)) PySem.builtinsNs)) (PyProof.Rows.tablesOk hd.view_39 (PySem.Shared.heap (PySem.Shared.mk (hd.heap_212 (PySem.World.params w)) (Array.mk ([] : List PySem.GenState)) (PySem.Drawn.mk 0 0 0 0) 419 os)))) ((fun (s : PySem.Shared) => (Bool.and (PySem.W.xlAt hd.view_39 ([] : List (Prod PySem.Str PySem.W.WData)) s) (PySem.W.recOk (PySem.W.RowW.records (PySem.W.OpenRow.toRowW (PySem.W.OpenLaw.row PySem.Challenge.rw_dv0002_01))) s))) (PySem.Shared.mk (hd.heap_212 (PySem.World.params w)) (Array.mk ([] : List PySem.GenState)) (PySem.Drawn.mk 0 0 0 0) 419 os))) (ite ((Bool.true) = (Bool.true)) (BEq.beq (Array.size (PySem.Shared.gens (PySem.Shared.mk (hd.heap_212 (PySem.World.params w)) (Array.mk ([] : List PySem.GenState)) (PySem.Drawn.mk 0 0 0 0) 419 os))) 0) (Bool.not (PySem.leftWithCleanup (PySem.Shared.gens (PySem.Shared.mk (hd.heap_212 (PySem.World.params w)) (Array.mk ([] : List PySem.GenState)) (PySem.Drawn.mk 0 0 0 0) 419 os)))))))) = ((fun (os : PySem.OsState) => Bool.true))) := by rewrite [PySem.W.Fast.te10880121769531294198, PySem.W.Fast.te821141287760084731, PySem.W.R.mapR_eq, PySem.W.Fast.te3399658132070893891, PySem.W.Fast.te7409074990110511671, PySem.W.Fast.te13664370479719496447, PySem.W.Fast.te14722251495701143533, PySem.W.Fast.te5923862056798008813, PySem.W.Fast.te10994771534591457954]; kernel_rfl
theorem hd.q_227 (w : PySem.World) : (((fun (os : PySem.OsState) => (PyProof.Rows.tabsOk hd.view_39 (PySem.Shared.mk (hd.heap_212 (PySem.World.params w)) (Array.mk ([] : List PySem.GenState)) (PySem.Drawn.mk 0 0 0 0) 419 os)))) = ((fun (os : PySem.OsState) => Bool.true))) := by rewrite [PySem.W.Fast.te479339242167458305]; kernel_rfl
theorem hd.q_229 (w : PySem.World) : (((fun (os : PySem.OsState) => (PySem.pinSeenD hd.view_39 (PyProof.Rows.drecsOf hd.view_39) (PySem.Shared.mk (hd.heap_212 (PySem.World.params w)) (Array.mk ([] : List PySem.GenState)) (PySem.Drawn.mk 0 0 0 0) 419 os)))) = ((fun (os : PySem.OsState) => (PySem.pinGoodD (PyProof.Rows.drecsOf hd.view_39))))) := by rewrite [PySem.W.Fast.te16090120013241838585, PySem.W.Fast.te3247288618530077131]; kernel_rfl
theorem hd.q_231 (w : PySem.World) : (((fun (os : PySem.OsState) => (PyProof.Rows.plainSeenE hd.view_39 (PySem.W.looseW hd.view_39 [(PySem.Str.ofString "Error"), (PySem.Str.ofString "DuplicateSectionError"), (PySem.Str.ofString "DuplicateOptionError")]) (PySem.Shared.mk (hd.heap_212 (PySem.World.params w)) (Array.mk ([] : List PySem.GenState)) (PySem.Drawn.mk 0 0 0 0) 419 os)))) = ((fun (os : PySem.OsState) => (PyProof.Rows.plainGoodE hd.view_39 (PySem.W.looseW hd.view_39 [(PySem.Str.ofString "Error"), (PySem.Str.ofString "DuplicateSectionError"), (PySem.Str.ofString "DuplicateOptionError")]))))) := by rewrite [PySem.W.Fast.te2386780881361962483, PySem.W.Fast.te821141287760084731]; kernel_rfl
theorem hd.q_233 (w : PySem.World) : (((fun (os : PySem.OsState) => (PyProof.Rows.plainSeenD hd.view_39 [(PySem.Str.ofString "Error"), (PySem.Str.ofString "DuplicateSectionError"), (PySem.Str.ofString "DuplicateOptionError")] (PySem.Shared.mk (hd.heap_212 (PySem.World.params w)) (Array.mk ([] : List PySem.GenState)) (PySem.Drawn.mk 0 0 0 0) 419 os)))) = ((fun (os : PySem.OsState) => (PyProof.Rows.plainGoodD hd.view_39 [(PySem.Str.ofString "Error"), (PySem.Str.ofString "DuplicateSectionError"), (PySem.Str.ofString "DuplicateOptionError")])))) := by rewrite [PySem.W.Fast.te11698064438423848299]; kernel_rfl
theorem hd.q_235 (w : PySem.World) : (((fun (os : PySem.OsState) => (PySem.W.wideSeen hd.view_39 (PySem.Shared.mk (hd.heap_212 (PySem.World.params w)) (Array.mk ([] : List PySem.GenState)) (PySem.Drawn.mk 0 0 0 0) 419 os)))) = ((fun (os : PySem.OsState) => (PySem.W.wideGood hd.view_39)))) := by rewrite [PySem.W.Fast.te7317090234206586261]; kernel_rfl
theorem hd.q_237 (w : PySem.World) : (((fun (os : PySem.OsState) => (PySem.W.clsSeenW hd.view_39 [(PySem.Str.ofString "Error"), (PySem.Str.ofString "DuplicateSectionError"), (PySem.Str.ofString "DuplicateOptionError")] (PySem.Shared.mk (hd.heap_212 (PySem.World.params w)) (Array.mk ([] : List PySem.GenState)) (PySem.Drawn.mk 0 0 0 0) 419 os)))) = ((fun (os : PySem.OsState) => (PySem.W.clsGoodW hd.view_39 [(PySem.Str.ofString "Error"), (PySem.Str.ofString "DuplicateSectionError"), (PySem.Str.ofString "DuplicateOptionError")])))) := by rewrite [PySem.W.Fast.te7369524293546568484]; kernel_rfl
theorem hd.q_247 (w : PySem.World) : (((fun (os : PySem.OsState) => (PySem.W.Hook.obs (PySem.W.kHook hd.heap_39 (2 :: 3 :: 6 :: 15 :: 22 :: 23 :: 25 :: 26 :: 28 :: 29 :: 30 :: 32 :: 33 :: 35 :: 36 :: 37 :: 38 :: 39 :: 40 :: 43 :: 50 :: 52 :: 53 :: 55 :: 56 :: 57 :: 58 :: 59 :: 62 :: 69 :: 70 :: 72 :: 73 :: 75 :: 76 :: 77 :: 78 :: 79 :: 82 :: 89 :: 90 :: 92 :: 93 :: 95 :: 96 :: 97 :: 98 :: 99 :: 102 :: 109 :: 111 :: 112 :: 114 :: 115 :: 116 :: 117 :: 118 :: 121 :: 123 :: 124 :: 126 :: 127 :: 128 :: 130 :: 131 :: 133 :: 134 :: 135 :: 138 :: 139 :: 140 :: 142 :: 143 :: 145 :: 146 :: 147 :: 149 :: 150 :: 152 :: 153 :: 154 :: 156 :: 157 :: 159 :: 160 :: []) (fun (x : PySem.Params) => (id (Eq.refl (2 :: 3 :: 6 :: 15 :: 22 :: 23 :: 25 :: 26 :: 28 :: 29 :: 30 :: 32 :: 33 :: 35 :: 36 :: 37 :: 38 :: 39 :: 40 :: 43 :: 50 :: 52 :: 53 :: 55 :: 56 :: 57 :: 58 :: 59 :: 62 :: 69 :: 70 :: 72 :: 73 :: 75 :: 76 :: 77 :: 78 :: 79 :: 82 :: 89 :: 90 :: 92 :: 93 :: 95 :: 96 :: 97 :: 98 :: 99 :: 102 :: 109 :: 111 :: 112 :: 114 :: 115 :: 116 :: 117 :: 118 :: 121 :: 123 :: 124 :: 126 :: 127 :: 128 :: 130 :: 131 :: 133 :: 134 :: 135 :: 138 :: 139 :: 140 :: 142 :: 143 :: 145 :: 146 :: 147 :: 149 :: 150 :: 152 :: 153 :: 154 :: 156 :: 157 :: 159 :: 160 :: []))))) (PySem.Shared.mk (hd.heap_212 (PySem.World.params w)) (Array.mk ([] : List PySem.GenState)) (PySem.Drawn.mk 0 0 0 0) 419 os)))) = ((fun (os : PySem.OsState) => (PySem.W.Hook.val (PySem.W.kHook hd.heap_39 (2 :: 3 :: 6 :: 15 :: 22 :: 23 :: 25 :: 26 :: 28 :: 29 :: 30 :: 32 :: 33 :: 35 :: 36 :: 37 :: 38 :: 39 :: 40 :: 43 :: 50 :: 52 :: 53 :: 55 :: 56 :: 57 :: 58 :: 59 :: 62 :: 69 :: 70 :: 72 :: 73 :: 75 :: 76 :: 77 :: 78 :: 79 :: 82 :: 89 :: 90 :: 92 :: 93 :: 95 :: 96 :: 97 :: 98 :: 99 :: 102 :: 109 :: 111 :: 112 :: 114 :: 115 :: 116 :: 117 :: 118 :: 121 :: 123 :: 124 :: 126 :: 127 :: 128 :: 130 :: 131 :: 133 :: 134 :: 135 :: 138 :: 139 :: 140 :: 142 :: 143 :: 145 :: 146 :: 147 :: 149 :: 150 :: 152 :: 153 :: 154 :: 156 :: 157 :: 159 :: 160 :: []) (fun (x : PySem.Params) => (id (Eq.refl (2 :: 3 :: 6 :: 15 :: 22 :: 23 :: 25 :: 26 :: 28 :: 29 :: 30 :: 32 :: 33 :: 35 :: 36 :: 37 :: 38 :: 39 :: 40 :: 43 :: 50 :: 52 :: 53 :: 55 :: 56 :: 57 :: 58 :: 59 :: 62 :: 69 :: 70 :: 72 :: 73 :: 75 :: 76 :: 77 :: 78 :: 79 :: 82 :: 89 :: 90 :: 92 :: 93 :: 95 :: 96 :: 97 :: 98 :: 99 :: 102 :: 109 :: 111 :: 112 :: 114 :: 115 :: 116 :: 117 :: 118 :: 121 :: 123 :: 124 :: 126 :: 127 :: 128 :: 130 :: 131 :: 133 :: 134 :: 135 :: 138 :: 139 :: 140 :: 142 :: 143 :: 145 :: 146 :: 147 :: 149 :: 150 :: 152 :: 153 :: 154 :: 156 :: 157 :: 159 :: 160 :: []))))) w)))) := by kernel_rfl
theorem hd.said : PySem.W.OpenLaw.wellSaid PySem.Challenge.rw_dv0002_01 = true := by
  delta PySem.W.OpenLaw.wellSaid
  refine PySem.W.look_both ?_ ?_
  · skip
    refine PySem.W.look_both ?_ ?_
    · skip
      refine PySem.W.look_both ?_ ?_
      · skip
        refine PySem.W.look_both ?_ ?_
        · skip
          refine PySem.W.look_both ?_ ?_
          · skip
            refine PySem.W.look_both ?_ ?_
            · skip
              refine PySem.W.look_both ?_ ?_
              · skip
                refine PySem.W.look_both ?_ ?_
                · skip
                  refine PySem.W.look_both ?_ ?_
                  · skip
                    refine PySem.W.look_both ?_ ?_
                    · skip
                      refine PySem.W.look_both ?_ ?_
                      · skip
                        refine PySem.W.look_both ?_ ?_
                        · skip
                          refine PySem.W.look_both ?_ ?_
                          · skip
                            refine PySem.W.look_both ?_ ?_
                            · skip
                              refine PySem.W.look_both ?_ ?_
                              · skip
                                refine PySem.W.look_both ?_ ?_
                                · skip
                                  refine PySem.W.look_both ?_ ?_
                                  · skip
                                    refine PySem.W.look_both ?_ ?_
                                    · skip
                                      delta PySem.W.OpenRow.wellSaid
                                      refine PySem.W.look_both ?_ ?_
                                      · skip
                                        refine PySem.W.look_both ?_ ?_
                                        · skip
                                          delta PySem.W.OpenRow.partSaid
                                          refine PySem.W.look_both ?_ ?_
                                          · skip
                                            refine PySem.W.look_both ?_ ?_
                                            · skip
                                              refine PySem.W.look_both ?_ ?_
                                              · skip
                                                refine PySem.W.look_both ?_ ?_
                                                · skip
                                                  refine PySem.W.look_both ?_ ?_
                                                  · skip
                                                    refine PySem.W.look_both ?_ ?_
                                                    · skip
                                                      refine PySem.W.look_both ?_ ?_
                                                      · skip
                                                        refine PySem.W.look_both ?_ ?_
                                                        · skip
                                                          refine PySem.W.look_both ?_ ?_
                                                          · skip
                                                            refine PySem.W.look_both ?_ ?_
                                                            · skip
                                                              refine PySem.W.look_both ?_ ?_
                                                              · skip
                                                                refine PySem.W.look_both ?_ ?_
                                                                · skip
                                                                  refine PySem.W.look_both ?_ ?_
                                                                  · skip
                                                                    delta PySem.W.looksOpen
                                                                    refine PySem.W.look_both ?_ ?_
                                                                    · skip
                                                                      refine PySem.W.look_both ?_ ?_
                                                                      · skip
                                                                        refine PySem.W.look_both ?_ ?_
                                                                        · skip
                                                                          refine PySem.W.look_both ?_ ?_
                                                                          · skip
                                                                            refine PySem.W.look_both ?_ ?_
                                                                            · skip
                                                                              rewrite [PySem.W.Fast.te11788848310118352699, PySem.W.Fast.te2368527892694137696]; kernel_rfl
                                                                            · skip
                                                                              rewrite [PySem.W.Fast.te9807087744658564304, PySem.W.Fast.te2368527892694137696, PySem.W.Fast.te12862048085361865435]; kernel_rfl
                                                                          · skip
                                                                            rewrite [PySem.W.Fast.te8377067652309620493, PySem.W.Fast.te2368527892694137696]; kernel_rfl
                                                                        · skip
                                                                          rewrite [PySem.W.R.allR_eq, PySem.W.Fast.te18344453789297297638, PySem.W.Fast.te2368527892694137696, PySem.W.Fast.te3471404346716756564, PySem.W.Fast.sDec_eq, PySem.W.Fast.te14412699480532031325]; kernel_rfl
                                                                      · skip
                                                                        rewrite [PySem.W.Fast.te8326940854005059898, PySem.W.R.allR_eq, PySem.W.Fast.te5923862056798008813, PySem.W.Fast.te2368527892694137696, PySem.W.Fast.te3471404346716756564, PySem.W.Fast.sDec_eq, PySem.W.Fast.te17691160309236699985, PySem.W.R.filterR_eq, PySem.W.Fast.te13343964577679436407]; kernel_rfl
                                                                    · skip
                                                                      rewrite [PySem.W.Fast.te17119622794617984870, PySem.W.Fast.te2368527892694137696, PySem.W.Fast.te17868728402115742887]; kernel_rfl
                                                                  · skip
                                                                    rewrite [PySem.W.Fast.te2368527892694137696]; kernel_rfl
                                                                · skip
                                                                  rewrite [PySem.W.Fast.te2368527892694137696]; kernel_rfl
                                                              · skip
                                                                rewrite [PySem.W.Fast.te2368527892694137696, PySem.W.R.allR_eq, PySem.W.Fast.te9706382859710513879]; kernel_rfl
                                                            · skip
                                                              rewrite [PySem.W.R.allR_eq, PySem.W.Fast.te2368527892694137696, PySem.W.Fast.te3471404346716756564, PySem.W.Fast.sDec_eq, PySem.W.Fast.te18344453789297297638, PySem.W.S.strDecS_eq, PySem.W.Fast.te2357444279172408678]; kernel_rfl
                                                          · skip
                                                            rewrite [PySem.W.R.mapR_eq, PySem.W.Fast.te2368527892694137696, PySem.W.Fast.sDec_eq]; kernel_rfl
                                                        · skip
                                                          rewrite [PySem.W.R.allR_eq, PySem.W.Fast.te2368527892694137696, PySem.W.Fast.te4857012375875476094, PySem.W.Fast.named_eq, PySem.W.Fast.te3471404346716756564, PySem.W.Fast.sDec_eq, PySem.W.Fast.te18344453789297297638]; kernel_rfl
                                                      · skip
                                                        rewrite [PySem.W.Fast.te13582783067957832011, PySem.W.Fast.te2368527892694137696]; kernel_rfl
                                                    · skip
                                                      rewrite [PySem.W.Fast.te5318747976498570220, PySem.W.Fast.te2368527892694137696]; kernel_rfl
                                                  · skip
                                                    rewrite [PySem.W.Fast.te5318747976498570220, PySem.W.Fast.te2368527892694137696]; kernel_rfl
                                                · skip
                                                  rewrite [PySem.W.R.allR_eq, PySem.W.Fast.te2368527892694137696, PySem.W.Fast.te5318747976498570220]; kernel_rfl
                                              · skip
                                                rewrite [PySem.W.R.allR_eq, PySem.W.Fast.te2368527892694137696, PySem.W.Fast.te4579403493507170074, PySem.W.R.anyR_eq, PySem.W.Fast.te4274047373036748609]; kernel_rfl
                                            · skip
                                              rewrite [PySem.W.R.allR_eq, PySem.W.Fast.te2368527892694137696]; kernel_rfl
                                          · skip
                                            rewrite [PySem.W.Fast.te2368527892694137696]; kernel_rfl
                                        · skip
                                          rewrite [PySem.W.Fast.te3471404346716756564, PySem.W.Fast.sDec_eq, PySem.W.Fast.te18344453789297297638, PySem.W.Fast.te2368527892694137696]; kernel_rfl
                                      · skip
                                        rewrite [PySem.W.Fast.te3471404346716756564, PySem.W.Fast.sDec_eq, PySem.W.Fast.te12749700546528644094, PySem.W.Fast.te2368527892694137696]; kernel_rfl
                                    · skip
                                      kernel_rfl
                                  · skip
                                    rewrite [PySem.W.R.allR_eq, PySem.W.Fast.te10501279942588096481]; kernel_rfl
                                · skip
                                  rewrite [PySem.W.Fast.te8179353310426384613]; kernel_rfl
                              · skip
                                kernel_rfl
                            · skip
                              kernel_rfl
                          · skip
                            rewrite [PySem.W.Fast.te8326940854005059898, PySem.W.Fast.te797321630700447069, PySem.W.Fast.te9572597257264208301]; kernel_rfl
                        · skip
                          rewrite [PySem.W.Fast.te9558739934217749035]; kernel_rfl
                      · skip
                        rewrite [PySem.W.Fast.te16286561074155671207]; kernel_rfl
                    · skip
                      rewrite [PySem.W.R.allR_eq, PySem.W.Fast.sDec_eq]; kernel_rfl
                  · skip
                    rewrite [PySem.W.R.allR_eq, PySem.W.Fast.te797321630700447069, PySem.W.Fast.named_eq, PySem.W.Fast.sDec_eq, PySem.W.Fast.te6984425678791042302]; kernel_rfl
                · skip
                  rewrite [PySem.W.R.allR_eq, PySem.W.Fast.te17095254045102204799, PySem.W.Fast.te12879404354523853263, PySem.W.Fast.te6984425678791042302]; kernel_rfl
              · skip
                rewrite [PySem.W.R.allR_eq, PySem.W.Fast.te17095254045102204799, PySem.W.Fast.te12879404354523853263, PySem.W.Fast.te6984425678791042302, PySem.W.Fast.te482687673346738481, PySem.W.Fast.sDec_eq]; kernel_rfl
            · skip
              rewrite [PySem.W.Fast.te17119622794617984870, PySem.W.Fast.te3471404346716756564, PySem.W.Fast.sDec_eq, PySem.W.Fast.te9572597257264208301]; kernel_rfl
          · skip
            rewrite [PySem.W.Fast.te3471404346716756564, PySem.W.Fast.sDec_eq, PySem.W.Fast.te10792542408131684335]; kernel_rfl
        · skip
          rewrite [PySem.W.Fast.te7723801398212525404, PySem.W.Fast.sDec_eq, PySem.W.Fast.te10792542408131684335]; kernel_rfl
      · skip
        rewrite [PySem.W.R.allR_eq, PySem.W.Fast.te10792542408131684335, PySem.W.Fast.named_eq]; kernel_rfl
    · skip
      rewrite [PySem.W.Fast.te17119622794617984870, PySem.W.Fast.te3471404346716756564, PySem.W.Fast.sDec_eq, PySem.W.Fast.te10792542408131684335]; kernel_rfl
  · skip
    rewrite [PySem.W.Fast.te17119622794617984870, PySem.W.Fast.sDec_eq]; kernel_rfl
theorem hd.body : PySem.W.behindTheImports pE = (hd.sts_49 ++ (hd.sts_80 ++ (hd.sts_102 ++ (hd.sts_125 ++ (hd.sts_148 ++ (hd.sts_196 ++ ([] : List PySem.Stmt))))))) := by kernel_rfl
theorem hd.run (w : PySem.World) (os : PySem.OsState) : PySem.W.topRun PySem.treeTable pE w 11 (Option.some (PySem.Value.ref 6)) (12 + (1 + (284 + (247 + (254 + (256 + (378 + (81 + 2)))))))) (PySem.Shared.mk (PySem.W.boot_heap (PySem.World.params w)) (Array.mk ([] : List PySem.GenState)) PySem.W.boot_drawn PySem.W.boot_toks os) (PySem.W.topStub pE) = (Option.some (PySem.Shared.mk (hd.heap_212 (PySem.World.params w)) (Array.mk ([] : List PySem.GenState)) (PySem.Drawn.mk 0 0 0 0) 419 os)) := by
  refine PySem.W.go_top (congrFun (hd.q_47 w) os) (PySem.W.piece_block (congrFun (hd.q_49 w) os) ?_)
  refine Eq.mpr (congrArg (fun b => PySem.W.topRun PySem.treeTable pE w 11 (Option.some (PySem.Value.ref 6)) (284 + (247 + (254 + (256 + (378 + (81 + 2)))))) (PySem.W.SharedT.abs (PySem.W.SharedT.mk (hd.tree_47 (PySem.World.params w)) 15 (PySem.Life.mk ([] : List Nat) ([] : List Nat) ([] : List Nat) 0 ([] : List (Prod Nat Nat)) ([] : List Nat) Bool.false #[] ([] : List Nat) 0 Bool.false Bool.false Bool.false (0 : Int) [(2000 : Int), (10 : Int), (10 : Int)] Bool.false 0 Bool.true ([] : List Nat) ([] : List Nat) 0 Bool.false) (Array.mk ([] : List PySem.GenState)) (PySem.Drawn.mk 0 0 0 0) 187 os)) (PySem.W.restOf b hd.env_41 (PySem.Code.body (PySem.W.behindTheImports pE) hd.env_41) (PySem.Pos.mk 0 0 0 0) [(PySem.W.topFrame (PySem.Pos.mk 0 0 0 0))]) = (Option.some (PySem.Shared.mk (hd.heap_212 (PySem.World.params w)) (Array.mk ([] : List PySem.GenState)) (PySem.Drawn.mk 0 0 0 0) 419 os))) hd.body) ?_
  refine PySem.W.piece_app (PySem.W.segRun_of (congrFun (hd.q_80 w) os)) ?_
  refine PySem.W.piece_app (PySem.W.segRun_of (congrFun (hd.q_102 w) os)) ?_
  refine PySem.W.piece_app (PySem.W.segRun_of (congrFun (hd.q_125 w) os)) ?_
  refine PySem.W.piece_app (PySem.W.segRun_of (congrFun (hd.q_148 w) os)) ?_
  refine PySem.W.piece_app (PySem.W.segRun_of (congrFun (hd.q_196 w) os)) ?_
  refine PySem.W.piece_app (PySem.W.segRun_of (congrFun (hd.q_212 w) os)) ?_
  exact congrFun (hd.q_214 w) os
theorem hd.left : PySem.W.LeftO pE hd.view_39 [(PySem.Str.ofString "Error"), (PySem.Str.ofString "DuplicateSectionError"), (PySem.Str.ofString "DuplicateOptionError")] (fun s => PySem.W.xlAt hd.view_39 ([] : List (Prod PySem.Str PySem.W.WData)) s && PySem.W.recOk (PySem.W.RowW.records PySem.Challenge.rw_dv0002_01.row.toRowW) s) (PySem.W.Hook.obs (PySem.W.kHook hd.heap_39 (2 :: 3 :: 6 :: 15 :: 22 :: 23 :: 25 :: 26 :: 28 :: 29 :: 30 :: 32 :: 33 :: 35 :: 36 :: 37 :: 38 :: 39 :: 40 :: 43 :: 50 :: 52 :: 53 :: 55 :: 56 :: 57 :: 58 :: 59 :: 62 :: 69 :: 70 :: 72 :: 73 :: 75 :: 76 :: 77 :: 78 :: 79 :: 82 :: 89 :: 90 :: 92 :: 93 :: 95 :: 96 :: 97 :: 98 :: 99 :: 102 :: 109 :: 111 :: 112 :: 114 :: 115 :: 116 :: 117 :: 118 :: 121 :: 123 :: 124 :: 126 :: 127 :: 128 :: 130 :: 131 :: 133 :: 134 :: 135 :: 138 :: 139 :: 140 :: 142 :: 143 :: 145 :: 146 :: 147 :: 149 :: 150 :: 152 :: 153 :: 154 :: 156 :: 157 :: 159 :: 160 :: []) (fun _ => by kernel_rfl))) (PySem.W.Hook.val (PySem.W.kHook hd.heap_39 (2 :: 3 :: 6 :: 15 :: 22 :: 23 :: 25 :: 26 :: 28 :: 29 :: 30 :: 32 :: 33 :: 35 :: 36 :: 37 :: 38 :: 39 :: 40 :: 43 :: 50 :: 52 :: 53 :: 55 :: 56 :: 57 :: 58 :: 59 :: 62 :: 69 :: 70 :: 72 :: 73 :: 75 :: 76 :: 77 :: 78 :: 79 :: 82 :: 89 :: 90 :: 92 :: 93 :: 95 :: 96 :: 97 :: 98 :: 99 :: 102 :: 109 :: 111 :: 112 :: 114 :: 115 :: 116 :: 117 :: 118 :: 121 :: 123 :: 124 :: 126 :: 127 :: 128 :: 130 :: 131 :: 133 :: 134 :: 135 :: 138 :: 139 :: 140 :: 142 :: 143 :: 145 :: 146 :: 147 :: 149 :: 150 :: 152 :: 153 :: 154 :: 156 :: 157 :: 159 :: 160 :: []) (fun _ => by kernel_rfl))) 3114 := by
  refine PySem.W.LeftO.of_pieces (PySem.W.boot_open (by kernel_rfl) (by decide) (fun s => by kernel_rfl)) hd.q_217 hd.run (by decide) (fun w => funext fun os => ?_)
  refine PySem.W.looks_pair (congrFun (hd.q_219 w) os) (PySem.W.looks_pair ?_ (congrFun (hd.q_247 w) os))
  exact (PySem.W.looks_pair (congrFun (hd.q_221 w) os) (PySem.W.looks_pair (congrFun (hd.q_223 w) os) (PySem.W.looks_pair (congrFun (hd.q_225 w) os) (PySem.W.looks_pair (congrFun (hd.q_227 w) os) (PySem.W.looks_pair (congrFun (hd.q_229 w) os) (PySem.W.looks_pair (congrFun (hd.q_231 w) os) (PySem.W.looks_pair (congrFun (hd.q_233 w) os) (PySem.W.looks_pair (congrFun (hd.q_235 w) os) (congrFun (hd.q_237 w) os)))))))))
theorem hd {d : DefRec} {kwd : List (PySem.Str × PySem.Expr)} (h1 : PySem.W.defOf hd.view_39 PySem.Challenge.rw_dv0002_01.row.name = some (d, kwd)) (h2 : PySem.Challenge.rw_dv0002_01.row.prog.theDef PySem.Challenge.rw_dv0002_01.row.name = some (d.params, d.body, d.scope)) (h3 : PySem.W.kwWritten? d.params.kwonlyargs d.params.kw_defaults = some kwd)
    (walk : PySem.W.WalkO hd.view_39 [(PySem.Str.ofString "Error"), (PySem.Str.ofString "DuplicateSectionError"), (PySem.Str.ofString "DuplicateOptionError")] (PySem.W.XL hd.view_39 ([] : List (Prod PySem.Str PySem.W.WData))) (PySem.W.Hook.says (PySem.W.kHook hd.heap_39 (2 :: 3 :: 6 :: 15 :: 22 :: 23 :: 25 :: 26 :: 28 :: 29 :: 30 :: 32 :: 33 :: 35 :: 36 :: 37 :: 38 :: 39 :: 40 :: 43 :: 50 :: 52 :: 53 :: 55 :: 56 :: 57 :: 58 :: 59 :: 62 :: 69 :: 70 :: 72 :: 73 :: 75 :: 76 :: 77 :: 78 :: 79 :: 82 :: 89 :: 90 :: 92 :: 93 :: 95 :: 96 :: 97 :: 98 :: 99 :: 102 :: 109 :: 111 :: 112 :: 114 :: 115 :: 116 :: 117 :: 118 :: 121 :: 123 :: 124 :: 126 :: 127 :: 128 :: 130 :: 131 :: 133 :: 134 :: 135 :: 138 :: 139 :: 140 :: 142 :: 143 :: 145 :: 146 :: 147 :: 149 :: 150 :: 152 :: 153 :: 154 :: 156 :: 157 :: 159 :: 160 :: []) (fun _ => by kernel_rfl))) PySem.Challenge.rw_dv0002_01.row.toRowW d kwd fun f vs => PySem.call f vs) : PySem.Challenge.rw_dv0002_01.Holds :=
  PySem.W.holds_law hd.said fun said => PySem.W.holds_open (q := hd.view_39) (loose := [(PySem.Str.ofString "Error"), (PySem.Str.ofString "DuplicateSectionError"), (PySem.Str.ofString "DuplicateOptionError")]) (Xt := (fun s => PySem.W.xlAt hd.view_39 ([] : List (Prod PySem.Str PySem.W.WData)) s && PySem.W.recOk (PySem.W.RowW.records PySem.Challenge.rw_dv0002_01.row.toRowW) s)) (XP := PySem.W.XL hd.view_39 ([] : List (Prod PySem.Str PySem.W.WData))) (Yf := PySem.W.Hook.obs (PySem.W.kHook hd.heap_39 (2 :: 3 :: 6 :: 15 :: 22 :: 23 :: 25 :: 26 :: 28 :: 29 :: 30 :: 32 :: 33 :: 35 :: 36 :: 37 :: 38 :: 39 :: 40 :: 43 :: 50 :: 52 :: 53 :: 55 :: 56 :: 57 :: 58 :: 59 :: 62 :: 69 :: 70 :: 72 :: 73 :: 75 :: 76 :: 77 :: 78 :: 79 :: 82 :: 89 :: 90 :: 92 :: 93 :: 95 :: 96 :: 97 :: 98 :: 99 :: 102 :: 109 :: 111 :: 112 :: 114 :: 115 :: 116 :: 117 :: 118 :: 121 :: 123 :: 124 :: 126 :: 127 :: 128 :: 130 :: 131 :: 133 :: 134 :: 135 :: 138 :: 139 :: 140 :: 142 :: 143 :: 145 :: 146 :: 147 :: 149 :: 150 :: 152 :: 153 :: 154 :: 156 :: 157 :: 159 :: 160 :: []) (fun _ => by kernel_rfl))) (Ya := PySem.W.Hook.val (PySem.W.kHook hd.heap_39 (2 :: 3 :: 6 :: 15 :: 22 :: 23 :: 25 :: 26 :: 28 :: 29 :: 30 :: 32 :: 33 :: 35 :: 36 :: 37 :: 38 :: 39 :: 40 :: 43 :: 50 :: 52 :: 53 :: 55 :: 56 :: 57 :: 58 :: 59 :: 62 :: 69 :: 70 :: 72 :: 73 :: 75 :: 76 :: 77 :: 78 :: 79 :: 82 :: 89 :: 90 :: 92 :: 93 :: 95 :: 96 :: 97 :: 98 :: 99 :: 102 :: 109 :: 111 :: 112 :: 114 :: 115 :: 116 :: 117 :: 118 :: 121 :: 123 :: 124 :: 126 :: 127 :: 128 :: 130 :: 131 :: 133 :: 134 :: 135 :: 138 :: 139 :: 140 :: 142 :: 143 :: 145 :: 146 :: 147 :: 149 :: 150 :: 152 :: 153 :: 154 :: 156 :: 157 :: 159 :: 160 :: []) (fun _ => by kernel_rfl))) (YP := PySem.W.Hook.says (PySem.W.kHook hd.heap_39 (2 :: 3 :: 6 :: 15 :: 22 :: 23 :: 25 :: 26 :: 28 :: 29 :: 30 :: 32 :: 33 :: 35 :: 36 :: 37 :: 38 :: 39 :: 40 :: 43 :: 50 :: 52 :: 53 :: 55 :: 56 :: 57 :: 58 :: 59 :: 62 :: 69 :: 70 :: 72 :: 73 :: 75 :: 76 :: 77 :: 78 :: 79 :: 82 :: 89 :: 90 :: 92 :: 93 :: 95 :: 96 :: 97 :: 98 :: 99 :: 102 :: 109 :: 111 :: 112 :: 114 :: 115 :: 116 :: 117 :: 118 :: 121 :: 123 :: 124 :: 126 :: 127 :: 128 :: 130 :: 131 :: 133 :: 134 :: 135 :: 138 :: 139 :: 140 :: 142 :: 143 :: 145 :: 146 :: 147 :: 149 :: 150 :: 152 :: 153 :: 154 :: 156 :: 157 :: 159 :: 160 :: []) (fun _ => by kernel_rfl))) (N := 3114) hd.left (PySem.W.Hook.of (PySem.W.kHook hd.heap_39 (2 :: 3 :: 6 :: 15 :: 22 :: 23 :: 25 :: 26 :: 28 :: 29 :: 30 :: 32 :: 33 :: 35 :: 36 :: 37 :: 38 :: 39 :: 40 :: 43 :: 50 :: 52 :: 53 :: 55 :: 56 :: 57 :: 58 :: 59 :: 62 :: 69 :: 70 :: 72 :: 73 :: 75 :: 76 :: 77 :: 78 :: 79 :: 82 :: 89 :: 90 :: 92 :: 93 :: 95 :: 96 :: 97 :: 98 :: 99 :: 102 :: 109 :: 111 :: 112 :: 114 :: 115 :: 116 :: 117 :: 118 :: 121 :: 123 :: 124 :: 126 :: 127 :: 128 :: 130 :: 131 :: 133 :: 134 :: 135 :: 138 :: 139 :: 140 :: 142 :: 143 :: 145 :: 146 :: 147 :: 149 :: 150 :: 152 :: 153 :: 154 :: 156 :: 157 :: 159 :: 160 :: []) (fun _ => by kernel_rfl))) (PySem.W.Hook.keeps (PySem.W.kHook hd.heap_39 (2 :: 3 :: 6 :: 15 :: 22 :: 23 :: 25 :: 26 :: 28 :: 29 :: 30 :: 32 :: 33 :: 35 :: 36 :: 37 :: 38 :: 39 :: 40 :: 43 :: 50 :: 52 :: 53 :: 55 :: 56 :: 57 :: 58 :: 59 :: 62 :: 69 :: 70 :: 72 :: 73 :: 75 :: 76 :: 77 :: 78 :: 79 :: 82 :: 89 :: 90 :: 92 :: 93 :: 95 :: 96 :: 97 :: 98 :: 99 :: 102 :: 109 :: 111 :: 112 :: 114 :: 115 :: 116 :: 117 :: 118 :: 121 :: 123 :: 124 :: 126 :: 127 :: 128 :: 130 :: 131 :: 133 :: 134 :: 135 :: 138 :: 139 :: 140 :: 142 :: 143 :: 145 :: 146 :: 147 :: 149 :: 150 :: 152 :: 153 :: 154 :: 156 :: 157 :: 159 :: 160 :: []) (fun _ => by kernel_rfl)))
    (fun s e => PySem.W.xl_of s (Bool.and_eq_true_iff.mp e).1) PySem.W.XL.keeps h1 h2 h3 (fun s e => PySem.W.recFacts_of (Bool.and_eq_true_iff.mp e).2) (by rfl) said (by decide +kernel) ⟨rfl, rfl, rfl, rfl, rfl, by decide +kernel⟩ ⟨[PySem.W.WData.list []], by decide +kernel, by decide +kernel⟩ walk
theorem hd.ofLaw (walk : (fun (p : PySem.Arguments) (b : List PySem.Stmt) (s : PySem.Scope) (c : PySem.Pos) (_ : fP (sAt 12) = p) (_ : fB (sAt 12) = b) (_ : fS (sAt 12) = s) (_ : fQ (sAt 12) = c) =>
    PySem.W.WalkO hd.view_39 [(PySem.Str.ofString "Error"), (PySem.Str.ofString "DuplicateSectionError"), (PySem.Str.ofString "DuplicateOptionError")] (PySem.W.XL hd.view_39 ([] : List (Prod PySem.Str PySem.W.WData))) (PySem.W.Hook.says (PySem.W.kHook hd.heap_39 (2 :: 3 :: 6 :: 15 :: 22 :: 23 :: 25 :: 26 :: 28 :: 29 :: 30 :: 32 :: 33 :: 35 :: 36 :: 37 :: 38 :: 39 :: 40 :: 43 :: 50 :: 52 :: 53 :: 55 :: 56 :: 57 :: 58 :: 59 :: 62 :: 69 :: 70 :: 72 :: 73 :: 75 :: 76 :: 77 :: 78 :: 79 :: 82 :: 89 :: 90 :: 92 :: 93 :: 95 :: 96 :: 97 :: 98 :: 99 :: 102 :: 109 :: 111 :: 112 :: 114 :: 115 :: 116 :: 117 :: 118 :: 121 :: 123 :: 124 :: 126 :: 127 :: 128 :: 130 :: 131 :: 133 :: 134 :: 135 :: 138 :: 139 :: 140 :: 142 :: 143 :: 145 :: 146 :: 147 :: 149 :: 150 :: 152 :: 153 :: 154 :: 156 :: 157 :: 159 :: 160 :: []) (fun _ => by kernel_rfl))) PySem.Challenge.rw_dv0002_01.row.toRowW (PySem.DefRec.mk (PySem.Str.ofString "law") p b s c) [] fun f vs => PySem.call f vs) _ _ _ _ (by conv => lhs; whnf) (by conv => lhs; whnf) (by conv => lhs; whnf) (by conv => lhs; whnf)) : PySem.Challenge.rw_dv0002_01.Holds :=
  hd (d := PySem.DefRec.mk (PySem.Str.ofString "law") _ _ _ _) (kwd := []) (by kernel_rfl) (by kernel_rfl) (by kernel_rfl) walk
theorem hd.fill : PySem.Challenge.rw_dv0002_01 = PySem.Challenge.rw_dv0002_01 ∧ hd.heap_39 = hd.heap_39 := by
  k_fill
  exact ⟨rfl, rfl⟩
end Mine

end
section -- R1a
set_option maxRecDepth 100000
set_option maxHeartbeats 1000000
set_option linter.unusedVariables false
namespace Mine
open PySem PySem.W PyProof.Rows

/-- a row of the script -/
inductive Row where
  | head (s : Str)
  | opt (o : Str)
  | look (o s : Str)
/-- where the reading stands -/
structure St where
  secs : List Str
  opts : List (Str × Str)
  name : Str
/-- what is wrong with a row -/
inductive Flt where
  | ds (s : Str)
  | dop (s o : Str)
  | ns (s : Str)
  | no (o s : Str)
def secTexts : List Str := ["s", "it's", "t"]
def optTexts : List Str := ["k", "[line 9]"]
def Row.ok : Row → Prop
  | .head s => s ∈ secTexts
  | .opt o => o ∈ optTexts
  | .look o s => o ∈ optTexts ∧ s ∈ secTexts
def Row.dats : Row → List Dat
  | .head s => [.str "head", .str s, .str ""]
  | .opt o => [.str "set", .str o, .str ""]
  | .look o s => [.str "look", .str o, .str s]
def fault (st : St) : Row → Option Flt
  | .head s => if s ∈ st.secs then some (.ds s) else none
  | .opt o => if (st.name, o) ∈ st.opts then some (.dop st.name o) else none
  | .look o s => if s ∈ st.secs then (if (s, o) ∈ st.opts then none else some (.no o s)) else some (.ns s)
def next (st : St) : Row → St
  | .head s => { st with secs := st.secs ++ [s], name := s }
  | .opt o => { st with opts := st.opts ++ [(st.name, o)] }
  | .look _ _ => st
def st0 : St := ⟨[], [], ""⟩
/-- the first row that does not go -/
def firstF (st : St) : List Row → Option (Nat × Flt)
  | [] => none
  | r :: rs => match fault st r with
    | some f => some (0, f)
    | none => (firstF (next st r) rs).map fun p => (p.1 + 1, p.2)
/-- the state behind rows that go -/
def after (st : St) : List Row → St
  | [] => st
  | r :: rs => after (next st r) rs
/-- the rows that are left, the errors with their lines -/
def dueT (st : St) (n : Nat) : List Row → List Row × List (Nat × Flt)
  | [] => ([], [])
  | r :: rs => match fault st r with
    | some f => ((dueT st n rs).1, (n, f) :: (dueT st n rs).2)
    | none => (r :: (dueT (next st r) (n + 1) rs).1, (dueT (next st r) (n + 1) rs).2)

theorem firstF_none {rs : List Row} : ∀ {st : St} {n : Nat}, firstF st rs = none → dueT st n rs = (rs, []) := by
  induction rs with
  | nil => intro st n _; rfl
  | cons r rs ih =>
    intro st n h
    unfold firstF at h
    unfold dueT
    cases hf : fault st r with
    | some f => rw [hf] at h; cases h
    | none =>
      rw [hf] at h
      dsimp only at h ⊢
      rw [Option.map_eq_none_iff] at h
      rw [ih h]
theorem firstF_some {rs : List Row} : ∀ {st : St} {n p : Nat} {f : Flt}, firstF st rs = some (p, f) →
    p < rs.length ∧ dueT st n rs = ((dueT st n (rs.take p ++ rs.drop (p + 1))).1, (n + p, f) :: (dueT st n (rs.take p ++ rs.drop (p + 1))).2) := by
  induction rs with
  | nil => intro st n p f h; cases h
  | cons r rs ih =>
    intro st n p f h
    unfold firstF at h
    cases hf : fault st r with
    | some f' =>
      rw [hf] at h
      injection h with h
      injection h with h1 h2
      subst h1 h2
      refine ⟨Nat.succ_pos _, ?_⟩
      show dueT st n (r :: rs) = ((dueT st n rs).1, (n + 0, f') :: (dueT st n rs).2)
      conv => lhs; unfold dueT
      rw [hf]; rfl
    | none =>
      rw [hf] at h
      dsimp only at h
      rw [Option.map_eq_some_iff] at h
      obtain ⟨⟨q, g⟩, h1, h2⟩ := h
      injection h2 with h2 h3
      subst h2 h3
      obtain ⟨i1, i2⟩ := ih (n := n + 1) h1
      refine ⟨Nat.succ_lt_succ i1, ?_⟩
      dsimp only
      show dueT st n (r :: rs) = ((dueT st n (r :: (rs.take q ++ rs.drop (q + 1)))).1, (n + (q + 1), g) :: (dueT st n (r :: (rs.take q ++ rs.drop (q + 1)))).2)
      unfold dueT
      rw [hf]
      dsimp only
      rw [i2, show n + (q + 1) = n + 1 + q by omega]
/-- the state at the row that does not go -/
theorem firstF_at {rs : List Row} : ∀ {st : St} {p : Nat} {f : Flt}, firstF st rs = some (p, f) → ∃ r, rs[p]? = some r ∧ fault (after st (rs.take p)) r = some f ∧ firstF st (rs.take p) = none := by
  induction rs with
  | nil => intro st p f h; cases h
  | cons r rs ih =>
    intro st p f h
    unfold firstF at h
    cases hf : fault st r with
    | some f' =>
      rw [hf] at h
      injection h with h
      injection h with h1 h2
      subst h1 h2
      exact ⟨r, rfl, hf, rfl⟩
    | none =>
      rw [hf] at h
      dsimp only at h
      rw [Option.map_eq_some_iff] at h
      obtain ⟨⟨q, g⟩, h1, h2⟩ := h
      injection h2 with h2 h3
      subst h2 h3
      obtain ⟨r', e1, e2, e3⟩ := ih h1
      refine ⟨r', e1, e2, ?_⟩
      show firstF st (r :: rs.take q) = none
      unfold firstF
      rw [hf]; dsimp only; rw [e3]; rfl
end Mine

end
section -- R1b
set_option maxRecDepth 100000
set_option maxHeartbeats 1000000
set_option linter.unusedVariables false
namespace Mine
open PySem PySem.W PyProof.Rows
def quo (x : Str) : Str := if x = "it's" then "\"it's\"" else (("'" : Str) ++ x) ++ ("'" : Str)
def numT (n : Nat) : Str := Str.ofString (toString n)
/-- a line's number, two signs wide -/
def d2 (n : Nat) : Str := if n < 10 then (" " : Str) ++ numT n else numT n
def lineT (n : Nat) : Str := ((" [line " : Str) ++ d2 n) ++ ("]" : Str)
def wordsOf (n : Nat) : Flt → Str
  | .ds s => ("While reading from 'a.ini'" : Str) ++ lineT n ++ (": section " : Str) ++ quo s ++ (" already exists" : Str)
  | .dop s o => ("While reading from 'a.ini'" : Str) ++ lineT n ++ (": option " : Str) ++ quo o ++ (" in section " : Str) ++ quo s ++ (" already exists" : Str)
  | .ns s => ("No section: " : Str) ++ quo s
  | .no o s => ("No option " : Str) ++ quo o ++ (" in section: " : Str) ++ quo s
def argsOf (n : Nat) : Flt → List Dat
  | .ds s => [.str s, .str "a.ini", .int n]
  | .dop s o => [.str s, .str o, .str "a.ini", .int n]
  | .ns s => [.str s]
  | .no o s => [.str o, .str s]
def kindT : Flt → Str
  | .ds _ => "section"
  | .dop _ _ => "option"
  | .ns _ => "no section"
  | .no _ _ => "no option"
def lineOf (n : Nat) : Flt → Int
  | .ds _ => n
  | .dop _ _ => n
  | _ => 0
def fltDats (n : Nat) (f : Flt) : List Dat := [.str (kindT f), .str (wordsOf n f), .tuple (argsOf n f), .int (lineOf n f)]
def Flt.ok : Flt → Prop
  | .ds s => s ∈ secTexts
  | .dop s o => s ∈ secTexts ∧ o ∈ optTexts
  | .ns s => s ∈ secTexts
  | .no o s => o ∈ optTexts ∧ s ∈ secTexts
theorem repr_sec : ∀ s ∈ secTexts, reprText s = quo s := by decide +kernel
theorem repr_opt : ∀ s ∈ optTexts, reprText s = quo s := by decide +kernel
theorem len_sec : ∀ s ∈ secTexts, s.length ≤ 8 ∧ (quo s).length ≤ 12 := by decide +kernel
theorem len_opt : ∀ s ∈ optTexts, s.length ≤ 8 ∧ (quo s).length ≤ 12 := by decide +kernel
end Mine

end
section -- R1c
open PySem PySem.W PyProof.Rows Mine PySem.Builtin PySem.Builtin.Str
set_option maxRecDepth 100000
set_option maxHeartbeats 400000
set_option linter.unusedVariables false
namespace Mine
theorem d2_len : ∀ n, n < 100 → (d2 n).length ≤ 2 := by decide +kernel
theorem d2_fmt (t u : Tok) : ∀ n : Nat, 1 ≤ n → n ≤ 22 → «int.__format__» ⟨[.int n t, .str "2d" u], []⟩ = (typeNameOf (.str "2d" u) >>= fun _ => typeNameOfCut 200 (.int n t) >>= fun _ => retStr (d2 n))
  | 1, _, _ => by kernel_rfl
  | 2, _, _ => by kernel_rfl
  | 3, _, _ => by kernel_rfl
  | 4, _, _ => by kernel_rfl
  | 5, _, _ => by kernel_rfl
  | 6, _, _ => by kernel_rfl
  | 7, _, _ => by kernel_rfl
  | 8, _, _ => by kernel_rfl
  | 9, _, _ => by kernel_rfl
  | 10, _, _ => by kernel_rfl
  | 11, _, _ => by kernel_rfl
  | 12, _, _ => by kernel_rfl
  | 13, _, _ => by kernel_rfl
  | 14, _, _ => by kernel_rfl
  | 15, _, _ => by kernel_rfl
  | 16, _, _ => by kernel_rfl
  | 17, _, _ => by kernel_rfl
  | 18, _, _ => by kernel_rfl
  | 19, _, _ => by kernel_rfl
  | 20, _, _ => by kernel_rfl
  | 21, _, _ => by kernel_rfl
  | 22, _, _ => by kernel_rfl
  | n + 23, _, h => absurd h (by omega)
theorem fn_fmt {prog : Program} {w : World} {A : Around} {E : Value → Shared → Prop} {s : Shared} {t u : Tok} {Q : Value → Shared → Prop} {n : Nat} (h1 : 1 ≤ n) (h2 : n ≤ 22)
   (h : ∀ t' k, Q (.str (lineT n) t') { s with toks := k }) :
   wpAny (model prog w) A (call (.builtin "str.format") [.str (PySem.Str.ofString " [line {0:2d}]") t, .int n u]) Q E s := by
  have hl := d2_len n (by omega)
  refine' KFm.call_k ?ka ?kb ?kc ?kd
  case ka => kfm_eq
  case kb => exact KFm.args_2 _ _
  case kc =>
    apply KPc.meets_of
    intro _ _ _ _ _ _ _
    unfold Builtin.«str.format»
    refine wpAny_bind (wpAny_of_eq (a := (_, _, _)) rfl ?_)
    refine wpAny_bind ?_
    unfold Builtin.Str.buildString
    refine wpAny_bind ?_
    rw [KPc.range_list]
    refine KFm.start ?_
    intro _ _
    refine KPc.turn ?_
    kpc_if
    kpc_check
    refine wpAny_bind (Mine.field_index0 (by rfl) ?_)
    refine wpAny_bind (wpAny_holding (wpAny_of_eq (a := _) rfl ?_))
    kpc_if
    refine wpAny_bind (wpAny_pure ?_)
    refine wpAny_bind (wpAny_holding (Mine.formatOf_2d (x := d2 n) (by rw [sizeLine_eq]; omega) (fun t u => Mine.d2_fmt t u n h1 h2) ?_))
    intro _ _
    refine wpAny_bind (wpAny_of_eq (a := some _) rfl ?_)
    refine wpAny_pure ?_
    refine KFm.after_field (K := 2) (by kpc_g) (by kpc_text) (by kpc_obj) hl (by kpc_obj) (by kfm_cat2) (by kfm_rest) ?_
    intro _ _
    refine KPc.turn ?_
    kpc_if
    kpc_check
    kfm_lit
    refine KPc.turn ?_
    kpc_if
    kfm_close
  case kd =>
    intro t' k
    refine str_eq_mp (a := lineT n) ?_ (h t' k)
    rfl
end Mine

end
section -- R1d
open PySem PySem.W PyProof.Rows Mine
set_option maxRecDepth 100000
set_option maxHeartbeats 400000
set_option linter.unusedVariables false
namespace Mine
/-- short texts -/
inductive Texts : List Value → List Str → Prop
  | nil : Texts [] []
  | cons {x : Str} {t : Tok} {vs : List Value} {ys : List Str} : x.length ≤ 100 → Texts vs ys → Texts (.str x t :: vs) (x :: ys)
theorem Texts.strs : ∀ {vs : List Value} {ys : List Str}, Texts vs ys → StrsAre vs ys
  | _, _, .nil => .nil
  | _, _, .cons _ r => .cons _ _ r.strs
theorem Texts.sum : ∀ {vs : List Value} {ys : List Str}, Texts vs ys → (ys.map (·.length)).sum ≤ 100 * vs.length
  | _, _, .nil => Nat.le_refl _
  | _, _, .cons h r => by
    have := r.sum
    simp only [List.map_cons, List.sum_cons, List.length_cons]
    omega
theorem join_led {prog : Program} {w : World} {A : Around} {E : Value → Shared → Prop} {s : Shared} {t : Tok} {Q : Value → Shared → Prop} {h₀ : Heap} {L D : Addr} {news : List (Addr × Obj)} {vs : List Value} {ys : List Str} {n : Nat} {y : Str} (N : News h₀ L s.heap news) (hm : (D, listOf vs.toArray n) ∈ news)
    (hi : Texts vs ys) (hz : vs.length ≤ 20) (hy : PySem.Txt.join (PySem.Str.ofString "") ys = y) (h : ∀ t' k, Q (.str y t') { s with toks := k }) :
    wpAny (model prog w) A (call (.builtin "str.join") [.str (PySem.Str.ofString "") t, .ref D]) Q E s := by
  have hs := hi.sum
  refine join_list (News.isList N hm) (by rw [List.toList_toArray]; exact hi.strs) ?_ (by rw [hy]; exact h)
  rw [show (PySem.Str.ofString "").length = 0 from by decide +kernel]
  omega
theorem lineT_len (n : Nat) (h : n < 100) : (lineT n).length ≤ 20 := by
  have := d2_len n h
  have e : (lineT n).length = 7 + (d2 n).length + 1 := by
    unfold lineT
    show (((" [line " : Str) ++ d2 n) ++ ("]" : Str)).cps.size = _
    show (((" [line " : Str).cps ++ (d2 n).cps) ++ ("]" : Str).cps).size = _
    rw [Array.size_append, Array.size_append]
    rfl
  omega
end Mine

end
section -- R1e
open PySem PySem.W PyProof.Rows Mine
set_option maxRecDepth 100000
set_option maxHeartbeats 400000
namespace Mine
theorem app_assoc (a b c : Str) : (a ++ b) ++ c = a ++ (b ++ c) := by
  show Str.mk ((a.cps ++ b.cps) ++ c.cps) = Str.mk (a.cps ++ (b.cps ++ c.cps))
  rw [Array.append_assoc]
theorem app_empty (a : Str) : (Str.ofString "") ++ a = a := by
  show Str.mk ((Str.ofString "").cps ++ a.cps) = a
  rw [show (Str.ofString "").cps = #[] from by decide +kernel, Array.empty_append]
theorem reading_eq : ("While reading from 'a.ini'" : Str) = ("While reading from " : Str) ++ ("'a.ini'" : Str) := by decide +kernel
theorem words_ds (n : Nat) (x0 : Str) : PySem.Txt.join (PySem.Str.ofString "") ["While reading from ", "'a.ini'", lineT n, ": section ", quo x0, " already exists"] = wordsOf n (.ds x0) := by
  unfold PySem.Txt.join; rw [wordsOf]
  rw [reading_eq, PySem.StrLaws.glued_eq_join]
  simp only [PySem.Str.join, app_assoc, app_empty]
theorem words_do (n : Nat) (x0 x1 : Str) : PySem.Txt.join (PySem.Str.ofString "") ["While reading from ", "'a.ini'", lineT n, ": option ", quo x1, " in section ", quo x0, " already exists"] = wordsOf n (.dop x0 x1) := by
  unfold PySem.Txt.join; rw [wordsOf]
  rw [reading_eq, PySem.StrLaws.glued_eq_join]
  simp only [PySem.Str.join, app_assoc, app_empty]
end Mine

end
section -- R1ini
open PySem PySem.W PyProof.Rows Mine
set_option maxRecDepth 100000
set_option maxHeartbeats 1000000
set_option linter.unusedVariables false
namespace Mine
def fltCls : Flt → Addr
  | .ds _ => 79
  | .dop _ _ => 99
  | .ns _ => 59
  | .no _ _ => 118
theorem cc_all (P : Params) : ∀ f, CC (hd.heap_39 P) (fltCls f)
  | .ds _ => ⟨by kernel_rfl, by kernel_rfl, by kernel_rfl, by kernel_rfl, by kernel_rfl, by kernel_rfl, by kernel_rfl, by kernel_rfl, by kernel_rfl, by kernel_rfl, by kernel_rfl⟩
  | .dop _ _ => ⟨by kernel_rfl, by kernel_rfl, by kernel_rfl, by kernel_rfl, by kernel_rfl, by kernel_rfl, by kernel_rfl, by kernel_rfl, by kernel_rfl, by kernel_rfl, by kernel_rfl⟩
  | .ns _ => ⟨by kernel_rfl, by kernel_rfl, by kernel_rfl, by kernel_rfl, by kernel_rfl, by kernel_rfl, by kernel_rfl, by kernel_rfl, by kernel_rfl, by kernel_rfl, by kernel_rfl⟩
  | .no _ _ => ⟨by kernel_rfl, by kernel_rfl, by kernel_rfl, by kernel_rfl, by kernel_rfl, by kernel_rfl, by kernel_rfl, by kernel_rfl, by kernel_rfl, by kernel_rfl, by kernel_rfl⟩
theorem datStr {x y : PySem.Str} {t : Tok} (e : x = y) : DatIn [] (.str x t) (Dat.str y) := e ▸ DatIn.str x t
/-- an __init__ has been through: x is as it is to be -/
structure Made (Ln : Nat) (S h : Heap) (C x d t : Addr) (es : List DictEntry) (n : Nat) (tv : List Value) (mv : Dat) (ats : List (Str × Value)) : Prop where
  keep : ∀ b o, S.get? b = some o → b ≠ x → h.get? b = some o
  ex : h.get? x = some (excObj C (some d) (.ref t) .none .none)
  di : h.get? d = some (dictOf es n)
  tu : h.get? t = some (tupObj tv)
  nd : S.get? d = none
  nt : S.get? t = none
  dt : d ≠ t
  nr : NoRef es
  len : es.length ≤ Ln
  ms : ∃ v, fnd "message" es = some v ∧ DatIn [] v mv
  at_ : ∀ p ∈ ats, fnd p.1 es = some p.2
/-- what an __init__ does -/
def InitP (prog : Program) (w : World) (D Ln : Nat) (f : Addr) (args : List Value) (kw : List (Str × Value)) (mv : Dat) (tv : List Value) (ats : List (Str × Value)) : Prop :=
  ∀ {base : Heap} {l : List Env} {mg mb : Str → Option Value} {loose : List Str} {mean : ExcName → Option Value} {s : Shared} {R : Result → Shared → Prop} {A : Around} {x C t0 : Addr},
    CC (hd.heap_39 w.params) C → base.StaysIn s.heap → s.heap.FunFrames base l → (hd.heap_39 w.params).In base → Top hd.view_39 loose mean mg mb base → A.frames = some l → A.depth ≤ D →
    s.heap.get? x = some (excObj C none (.ref t0) .none .none) → base.get? x = none → x ∉ l.filterMap (·.frame) →
    (∀ h' d t es n tk', Made Ln s.heap h' C x d t es n tv mv ats → R (.ok (.ret .none)) { s with heap := h', toks := tk' }) →
    codeAny (model prog w) A (.call (.ref f) ⟨.ref x :: args, kw⟩) R s
theorem init_err {prog : Program} {w : World} {v : Value} {mv : Dat} (hv : DatIn [] v mv) : InitP prog w 950 1 29 [v] [] mv [v] [] := by
  intro base l mg mb loose mean s R A x C t0 cc hst hff X T hA hdp hx hbx hxf h
  w_on
  refine' enterL (binds := [("self", .ref x), ("msg", v)]) (news := [(x, excObj C none (.ref t0) .none .none)]) hA hst hff X T ?kn ?k6 ?k7 ?k8 ?k9 ?kB ?_ ?c2 ?c3 ?c4 ?c5
  (case kn => intro b hb; simp only [List.mem_cons, List.not_mem_nil, or_false] at hb; subst hb; exact ⟨hx, hbx, hxf⟩)
  (case k6 => k_dflt k_is); (case k7 => k_dflt k_is); (case k8 => exact Nat.lt_of_le_of_lt hdp (by decide)); (case k9 => exact binds_K (X.keeps hst) rfl (by k_is) rfl rfl rfl); (case c5 => decide); (case kB => exact locs rfl); (case c2 => exact rfl); (case c3 => exact rfl); (case c4 => exact rfl)
  intro g' L' h₁ F' N' B' X' T' hL' hin hout hlt
  subst hL'
  k_fold
  repeat' ((fail_if_success (with_reducible show wpAny _ _ (setAttr _ _ _) _ _ _)); first | walk1 | (dsimp only; walk1) | fail "no step")
  refine set_excNew (by k_asm) (by k_asm) (by k_asm) cc.sa (.head (fun p hp => absurd hp List.not_mem_nil)) cc.ov cc.ms cc.hd ?_
  intro h2 d F2 N2 l2
  repeat' ((fail_if_success (with_reducible show wpAny _ _ (call (Value.builtin _) _) _ _ _)); first | (with_reducible refine execs_one ?_; (try dsimp only)) | ((with_reducible show wpAny _ _ (getMethod (Value.type _) _ _) _ _ _); refine method_type (by k_asm) (by k_asm) (by exact Mine.meta_Exception) (by decide +kernel) (by k_dflt k_is) (by k_handed) ?_) | walk1 | (dsimp only; walk1) | fail "no step")
  refine call_einit F2 (by k_asm) N2 (.tail (Nat.ne_of_gt (l2 _ (.head _))) (.head (fun p hp => absurd hp List.not_mem_nil))) cc.ex ?_
  intro h3 t F3 N3 l3
  k_unfold
  have lx : x < d := l2 _ (.head _)
  have ltd : d < t := l3 _ (.head _)
  have fresh : ∀ b, g'.get? b = none → b ≠ x → s.heap.get? b = none := fun b hb hn => by
    cases z : s.heap.get? b with
    | none => rfl
    | some o => rw [hin b o z (by simpa using hn)] at hb; cases hb
  have nd := N3 _ (.tail _ (.head _))
  have nt := N3 _ (.head _)
  refine h h3 d t _ 1 _ ⟨fun b o hb hn => F3.keep b o (hin b o hb (by simpa using hn)), (N3 _ (.tail _ (.tail _ (.head _)))).1, nd.1, nt.1, fresh _ nd.2.2 (Nat.ne_of_gt lx), fresh _ nt.2.2 (Nat.ne_of_gt (Nat.lt_trans lx ltd)), Nat.ne_of_lt ltd, rfl, Nat.le_refl _, ⟨v, ?_, hv⟩, fun p hp => absurd hp List.not_mem_nil⟩
  unfold fnd; rw [List.find?_cons, isStr_self]; rfl
section
variable {prog : Program} {w : World} {A A₀ : Around} {E : Value → Shared → Prop} {s : Shared} {base h₀ : Heap} {outer : List Env} {env : Env} {loose : List Str} {mean : ExcName → Option Value} {mg mb : Str → Option Value} {L x C t0 f : Addr} {m : Str → Option Value} {tl news : List (Addr × Obj)} {Q : Value → Shared → Prop} {args tv : List Value} {mv : Dat}
/-- an __init__ called in another one -/
theorem init_K {D Ln : Nat} (IP : InitP prog w D Ln f args [] mv tv []) (B : Below A₀ base outer h₀) (F : Fr h₀ L s.heap m) (N : News h₀ L s.heap ((x, excObj C none (.ref t0) .none .none) :: tl)) (off : ∀ p ∈ tl, p.1 ≠ x) (hA : A.frames = some (env :: outer)) (hf : env.frame = some L) (hke : env.scope.kind = .function)
    (X : (hd.heap_39 w.params).In base) (T : Top hd.view_39 loose mean mg mb base) (cc : CC (hd.heap_39 w.params) C) (hdp : A.depth ≤ D)
    (h : ∀ h' d t es n tk', Fr h₀ L h' m → News h₀ L h' ((x, excObj C (some d) (.ref t) .none .none) :: (d, dictOf es n) :: (t, tupObj tv) :: tl) → NoRef es → es.length ≤ Ln → (∃ v, fnd "message" es = some v ∧ DatIn [] v mv) → x ≠ d → (∀ p ∈ (t, tupObj tv) :: tl, p.1 ≠ d) → (∀ p ∈ (t, tupObj tv) :: tl, p.1 ≠ x) → Q .none { s with heap := h', toks := tk' }) :
    wpAny (model prog w) A (call (.ref f) (.ref x :: args)) Q E s := by
  have hbL : base.get? L = none := by
    cases q : base.get? L with
    | none => rfl
    | some o => exact absurd (Nat.lt_of_lt_of_le (Heap.lt_size (B.stays L o q)) F.above) (Nat.lt_irrefl _)
  have hff : s.heap.FunFrames base (env :: outer) := .cons (by rw [hke]; decide) hf F.ns hbL (B.frames.of_keeps fun b o e _ => ⟨o, F.keep b o e, rfl⟩)
  have gx := N _ (.head _)
  have hbx : base.get? x = none := by
    cases z : base.get? x with
    | none => rfl
    | some o => have := B.stays _ _ z; have g2 := gx.2.2; simp only at g2; rw [g2] at this; cases this
  have hxf : x ∉ (env :: outer).filterMap (·.frame) := fun z => by
    obtain ⟨_, o, ho, hnf⟩ := hff.mem z
    rw [gx.1] at ho; injection ho with ho; subst ho; exact hnf _ rfl
  refine wpAny_call (IP cc (fun b o e => F.keep b o (B.stays b o e)) hff X T hA hdp gx.1 hbx hxf fun h' d t es n tk' M => ?_)
  have xd : x ≠ d := fun z => by have := M.nd; rw [← z, gx.1] at this; cases this
  have xt : x ≠ t := fun z => by have := M.nt; rw [← z, gx.1] at this; cases this
  have hLx : L ≠ x := Ne.symm gx.2.1
  have fresh : ∀ b, s.heap.get? b = none → b ≠ L ∧ h₀.get? b = none := fun b hb => by
    refine ⟨fun z => ?_, ?_⟩
    · obtain ⟨o, _, _, ho, _⟩ := F.ns
      rw [z, ho] at hb; cases hb
    · cases z : h₀.get? b with
      | none => rfl
      | some o => rw [F.keep _ _ z] at hb; cases hb
  have old : ∀ p ∈ tl, p.1 ≠ d ∧ p.1 ≠ t := fun p hp => by
    have g := (N p (.tail _ hp)).1
    exact ⟨fun z => (by rw [z, M.nd] at g; cases g), fun z => (by rw [z, M.nt] at g; cases g)⟩
  have F' : Fr h₀ L h' m := ⟨by
    obtain ⟨o, es', ep, ho, r⟩ := F.ns
    exact ⟨o, es', ep, M.keep _ _ ho hLx, r⟩, fun b o q => M.keep b o (F.keep b o q) (fun z => by have g2 := gx.2.2; simp only at g2; rw [z, g2] at q; cases q), F.above⟩
  refine h h' d t es n tk' F' (fun p hp => ?_) M.nr M.len M.ms xd (fun p hp => ?_) (fun p hp => ?_)
  · rcases List.mem_cons.mp hp with rfl | hp
    · exact ⟨M.ex, gx.2⟩
    rcases List.mem_cons.mp hp with rfl | hp
    · exact ⟨M.di, fresh _ M.nd⟩
    rcases List.mem_cons.mp hp with rfl | hp
    · exact ⟨M.tu, fresh _ M.nt⟩
    · exact ⟨M.keep _ _ (N p (.tail _ hp)).1 (off p hp), (N p (.tail _ hp)).2⟩
  · rcases List.mem_cons.mp hp with rfl | hp
    · exact Ne.symm M.dt
    · exact (old p hp).1
  · rcases List.mem_cons.mp hp with rfl | hp
    · exact Ne.symm xt
    · exact off p hp
/-- an exception of ours is made -/
theorem make_K {ats : List (Str × Value)} {D Ln : Nat} {kw : List (Str × Value)} (IP : InitP prog w D Ln f args kw mv tv ats) (cc : CC (hd.heap_39 w.params) C) (B : Below A₀ base outer h₀) (F : Fr h₀ L s.heap m) (N : News h₀ L s.heap news) (hA : A.frames = some (env :: outer)) (hf : env.frame = some L) (hke : env.scope.kind = .function)
    (X : (hd.heap_39 w.params).In base) (T : Top hd.view_39 loose mean mg mb base) (hi : findIn (hd.heap_39 w.params) (.ref C) "__init__" = some (some (.ref f))) (hfn : isFn (hd.heap_39 w.params) (.ref f) = true) (hz : args.length ≤ 10) (hdp : A.depth + 1 ≤ D)
    (h : ∀ h' e d t es n tk', (∀ b o, s.heap.get? b = some o → h'.get? b = some o) → s.heap.get? e = none → s.heap.get? d = none → s.heap.get? t = none → h'.get? e = some (excObj C (some d) (.ref t) .none .none) → h'.get? d = some (dictOf es n) → h'.get? t = some (tupObj tv) → NoRef es → (∃ v, fnd "message" es = some v ∧ DatIn [] v mv) → (∀ p ∈ ats, fnd p.1 es = some p.2) → Q (.ref e) { s with heap := h', toks := tk' }) :
    wpAny (model prog w) A (call (.ref C) args kw) Q E s := by
  have hbL : base.get? L = none := by
    cases q : base.get? L with
    | none => rfl
    | some o => exact absurd (Nat.lt_of_lt_of_le (Heap.lt_size (B.stays L o q)) F.above) (Nat.lt_irrefl _)
  have hff : s.heap.FunFrames base (env :: outer) := .cons (by rw [hke]; decide) hf F.ns hbL (B.frames.of_keeps fun b o e _ => ⟨o, F.keep b o e, rfl⟩)
  have hst : base.StaysIn s.heap := fun b o e => F.keep b o (B.stays b o e)
  have XS := X.keeps hst
  obtain ⟨hh, g, dr, tk, os⟩ := s
  have kp : ∀ b o, hh.get? b = some o → ((hh.push (tupObj args)).push (excObj (C) none (.ref hh.objs.size) .none .none)).get? b = some o := fun b o e => Heap.get?_push_of_some _ (Heap.get?_push_of_some _ e)
  have fx : hh.get? (hh.objs.size + 1) = none := Heap.get?_none_of_le (Nat.le_succ _)
  have gx : ((hh.push (tupObj args)).push (excObj (C) none (.ref hh.objs.size) .none .none)).get? (hh.objs.size + 1) = some (excObj (C) none (.ref hh.objs.size) .none .none) := by
    have := Heap.get?_push_size (hh.push (tupObj args)) (o := excObj (C) none (.ref hh.objs.size) .none .none) rfl
    rwa [Heap.size_push] at this
  have hff2 := hff.of_keeps (h' := (hh.push (tupObj args)).push (excObj (C) none (.ref hh.objs.size) .none .none)) fun b o e _ => ⟨o, kp b o e, rfl⟩
  refine wpAny_call (exc_make (ecls_of XS cc.ex) (looks_findIn XS hi) (fun self => bind_fn XS self (beq_iff_eq.mp hfn)) (Nat.le_trans hz (by rw [sizeLine_eq]; decide)) ?_)
  refine IP (s := ⟨_, g, dr, tk, os⟩) (A := A.under _) cc (fun b o e => kp b o (hst b o e)) hff2 X T hA ?_ gx ?_ ?_ fun h' d t es n tk' M => ⟨rfl, ?_⟩
  · rw [depth_under_kw]; exact hdp
  · cases z : base.get? (hh.objs.size + 1) with
    | none => rfl
    | some o => have := hst _ _ z; rw [fx] at this; cases this
  · intro z
    obtain ⟨_, o, ho, hnf⟩ := hff2.mem z
    rw [gx] at ho; injection ho with ho; subst ho; exact hnf _ rfl
  have ne : ∀ b o, hh.get? b = some o → b ≠ hh.objs.size + 1 := fun b o e z => by rw [z, fx] at e; cases e
  have back : ∀ b, ((hh.push (tupObj args)).push (excObj (C) none (.ref hh.objs.size) .none .none)).get? b = none → hh.get? b = none := fun b hb => by
    cases z : hh.get? b with
    | none => rfl
    | some o => rw [kp b o z] at hb; cases hb
  exact h h' _ d t es n tk' (fun b o e => M.keep b o (kp b o e) (ne b o e)) fx (back _ M.nd) (back _ M.nt) M.ex M.di M.tu M.nr M.ms M.at_
end
theorem made_end {s : Shared} {g h : Heap} {L x C d t : Addr} {m : Str → Option Value} {news : List (Addr × Obj)} {es : List DictEntry} {n : Nat} {tv : List Value} {mv : Dat} {o0 : Obj} {v : Value}
    (hin : ∀ b o, s.heap.get? b = some o → b ∉ [(x, o0)].map (·.1) → g.get? b = some o) (F : Fr g L h m) (N : News g L h news) (ht : (t, tupObj tv) ∈ news) (hx : (x, excObj C (some d) (.ref t) .none .none) ∈ news) (hd : (d, dictOf es n) ∈ news)
    {Ln : Nat} (nr : NoRef es) (len : es.length ≤ Ln) (ms : fnd "message" es = some v) (hv : DatIn [] v mv) {ats : List (Str × Value)} (hat : ∀ p ∈ ats, fnd p.1 es = some p.2) : Made Ln s.heap h C x d t es n tv mv ats := by
  have gx := N _ hx
  have gd := N _ hd
  have gt := N _ ht
  have xd : d ≠ x := fun z => by have h1 := gd.1; simp only at h1; rw [z, gx.1] at h1; cases h1
  have xt : t ≠ x := fun z => by have h1 := gt.1; simp only at h1; rw [z, gx.1] at h1; cases h1
  have dt : d ≠ t := fun z => by have h1 := gd.1; simp only at h1; rw [z, gt.1] at h1; injection h1 with h1; exact absurd (congrArg Obj.cls h1) (by simp)
  have ni : ∀ b, b ≠ x → b ∉ [(x, o0)].map (·.1) := fun b hb z => hb (List.mem_singleton.mp z)
  have fresh : ∀ b, g.get? b = none → b ≠ x → s.heap.get? b = none := fun b hb hn => by
    cases z : s.heap.get? b with
    | none => rfl
    | some o => rw [hin b o z (ni b hn)] at hb; cases hb
  exact ⟨fun b o hb hn => F.keep b o (hin b o hb (ni b hn)), gx.1, gd.1, gt.1, fresh _ gd.2.2 xd, fresh _ gt.2.2 xt, dt, nr, len, ⟨v, ms, hv⟩, hat⟩
theorem news_one {g h : Heap} {L x : Addr} {o : Obj} {news : List (Addr × Obj)} (N : News g L h news) (hm : (x, o) ∈ news) : News g L h [(x, o)] := fun p hp => (List.mem_singleton.mp hp) ▸ N _ hm
end Mine

end
section -- R1ins
open PySem PySem.W PyProof.Rows Mine
set_option maxRecDepth 100000
set_option maxHeartbeats 1000000
set_option linter.unusedVariables false
namespace Mine
theorem init_ns {prog : Program} {w : World} {x0 : Str} {tk : Tok} (hx0 : x0 ∈ secTexts) : InitP prog w 940 2 56 [.str x0 tk] [] (.str (wordsOf 0 (.ns x0))) [.str x0 tk] [("section", .str x0 tk)] := by
  intro base l mg mb loose mean s R A x C t0 cc hst hff X T hA hdp hx hbx hxf h
  have hr0 := repr_sec x0 hx0
  obtain ⟨hl0, hq0⟩ := len_sec x0 hx0
  w_on
  refine' enterL (binds := [("self", .ref x), ("section", .str x0 tk)]) (news := [(x, excObj C none (.ref t0) .none .none)]) hA hst hff X T ?kn ?k6 ?k7 ?k8 ?k9 ?kB ?_ ?c2 ?c3 ?c4 ?c5
  (case kn => intro b hb; rw [List.mem_singleton.mp hb]; exact ⟨hx, hbx, hxf⟩)
  (case k6 => k_dflt k_is); (case k7 => k_dflt k_is); (case k8 => exact Nat.lt_of_le_of_lt hdp (by decide)); (case k9 => exact BindsTo.of_eq rfl); (case c5 => decide); (case kB => exact locs rfl); (case c2 => exact rfl); (case c3 => exact rfl); (case c4 => exact rfl)
  intro g' L' h₁ F' N' B' X' T' hL' hin hout hlt
  subst hL'
  clear hout hlt hx hbx hxf hst hff
  k_fold
  repeat' ((fail_if_success (with_reducible show wpAny _ _ (call (Value.ref _) _) _ _ _)); first | (with_reducible refine execs_one ?_; (try dsimp only)) | (with_reducible ((with_reducible show wpAny _ _ (pyReprObj (Value.str _ _)) _ _ _); refine Mine.reprL (by first | assumption | decide +kernel) (by first | (rw [sizeLine_eq]; omega) | decide +kernel) ?_)) | walk1 | (dsimp only; walk1) | (dsimp only [List.nil_append, List.cons_append]; walk1) | fail "no step")
  refine init_K (init_err (mv := .str (wordsOf 0 (.ns x0))) (datStr (by rfl))) B' (by k_asm) (news_one (by k_asm) (by k_mem)) (fun p hp => absurd hp List.not_mem_nil) (Around.frames_deeper hA) rfl rfl X T cc (by rw [depth_deeper]; omega) ?_
  intro h2 d t es n tk2 F2 N2 nr2 len2 ms2 xd od ox
  obtain ⟨v2, ms2, hv2⟩ := ms2
  dsimp only
  refine st_attr F2 X' N2 od xd cc nr2 (by omega) rfl rfl cc.se ?_ rfl rfl rfl (by decide) rfl
  intro h3 es3 n3 tk3 F3 N3 P3
  dsimp only
  have q3 := P3.len
  refine st_args F3 X' N3 ox xd cc rfl (.cons rfl rfl (by decide) .nil) (Nat.le_of_ble_eq_true rfl) ?_ rfl rfl rfl
  intro h9 t9 tk9 F9 N9 l9
  refine wpAny_execs_nil ?_
  k_unfold
  refine h h9 d t9 es3 n3 tk9 (made_end hin F9 N9 (.head _) (.tail _ (.head _)) (.tail _ (.tail _ (.head _))) P3.nr (by omega) ((P3.other _ (by decide)).trans ms2) hv2 ?_)
  intro p hp
  rw [List.mem_singleton.mp hp]
  exact P3.same
theorem init_no {prog : Program} {w : World} {x0 x1 : Str} {tk t1 : Tok} (hx0 : x0 ∈ secTexts) (hx1 : x1 ∈ optTexts) : InitP prog w 940 3 115 [.str x1 t1, .str x0 tk] [] (.str (wordsOf 0 (.no x1 x0))) [.str x1 t1, .str x0 tk] [("option", .str x1 t1), ("section", .str x0 tk)] := by
  intro base l mg mb loose mean s R A x C t0 cc hst hff X T hA hdp hx hbx hxf h
  have hr0 := repr_sec x0 hx0
  obtain ⟨hl0, hq0⟩ := len_sec x0 hx0
  have hr1 := repr_opt x1 hx1
  obtain ⟨hl1, hq1⟩ := len_opt x1 hx1
  w_on
  refine' enterL (binds := [("self", .ref x), ("option", .str x1 t1), ("section", .str x0 tk)]) (news := [(x, excObj C none (.ref t0) .none .none)]) hA hst hff X T ?kn ?k6 ?k7 ?k8 ?k9 ?kB ?_ ?c2 ?c3 ?c4 ?c5
  (case kn => intro b hb; rw [List.mem_singleton.mp hb]; exact ⟨hx, hbx, hxf⟩)
  (case k6 => k_dflt k_is); (case k7 => k_dflt k_is); (case k8 => exact Nat.lt_of_le_of_lt hdp (by decide)); (case k9 => exact BindsTo.of_eq rfl); (case c5 => decide); (case kB => exact locs rfl); (case c2 => exact rfl); (case c3 => exact rfl); (case c4 => exact rfl)
  intro g' L' h₁ F' N' B' X' T' hL' hin hout hlt
  subst hL'
  clear hout hlt hx hbx hxf hst hff
  k_fold
  repeat' ((fail_if_success (with_reducible show wpAny _ _ (call (Value.ref _) _) _ _ _)); first | (with_reducible refine execs_one ?_; (try dsimp only)) | (with_reducible ((with_reducible show wpAny _ _ (pyReprObj (Value.str _ _)) _ _ _); refine Mine.reprL (by first | assumption | decide +kernel) (by first | (rw [sizeLine_eq]; omega) | decide +kernel) ?_)) | walk1 | (dsimp only; walk1) | (dsimp only [List.nil_append, List.cons_append]; walk1) | fail "no step")
  refine init_K (init_err (mv := .str (wordsOf 0 (.no x1 x0))) (datStr (by first | rfl | (trace_state; fail "words")))) B' (by k_asm) (news_one (by k_asm) (by k_mem)) (fun p hp => absurd hp List.not_mem_nil) (Around.frames_deeper hA) rfl rfl X T cc (by rw [depth_deeper]; omega) ?_
  intro h2 d t es n tk2 F2 N2 nr2 len2 ms2 xd od ox
  obtain ⟨v2, ms2, hv2⟩ := ms2
  dsimp only
  refine st_attr F2 X' N2 od xd cc nr2 (by omega) rfl rfl cc.op ?_ rfl rfl rfl (by decide) rfl
  intro h3 es3 n3 tk3 F3 N3 P3
  dsimp only
  have q3 := P3.len
  refine st_attr F3 X' N3 od xd cc P3.nr (by omega) rfl rfl cc.se ?_ rfl rfl rfl (by decide) rfl
  intro h4 es4 n4 tk4 F4 N4 P4
  dsimp only
  have q4 := P4.len
  refine st_args F4 X' N4 ox xd cc rfl (.cons rfl rfl (by decide) (.cons rfl rfl (by decide) .nil)) (Nat.le_of_ble_eq_true rfl) ?_ rfl rfl rfl
  intro h9 t9 tk9 F9 N9 l9
  refine wpAny_execs_nil ?_
  k_unfold
  refine h h9 d t9 es4 n4 tk9 (made_end hin F9 N9 (.head _) (.tail _ (.head _)) (.tail _ (.tail _ (.head _))) P4.nr (by omega) ((P4.other _ (by decide)).trans ((P3.other _ (by decide)).trans ms2)) hv2 ?_)
  intro p hp
  rcases List.mem_cons.mp hp with rfl | hp
  · exact ((P4.other _ (by dsimp only; decide)).trans P3.same)
  rw [List.mem_singleton.mp hp]
  exact P4.same
theorem init_ds {prog : Program} {w : World} {x0 : Str} {n : Nat} {tk ts tl : Tok} (hx0 : x0 ∈ secTexts) (hn1 : 1 ≤ n) (hn2 : n ≤ 22) : InitP prog w 940 4 76 [.str x0 tk, .str "a.ini" ts, .int n tl] [] (.str (wordsOf n (.ds x0))) [.str x0 tk, .str "a.ini" ts, .int n tl] [("section", .str x0 tk), ("source", .str "a.ini" ts), ("lineno", .int n tl)] := by
  intro base l mg mb loose mean s R A x C t0 cc hst hff X T hA hdp hx hbx hxf h
  have hr0 := repr_sec x0 hx0
  obtain ⟨hl0, hq0⟩ := len_sec x0 hx0
  have hd0 := lineT_len n (by omega)
  w_on
  refine' enterL (binds := [("self", .ref x), ("section", .str x0 tk), ("source", .str "a.ini" ts), ("lineno", .int n tl)]) (news := [(x, excObj C none (.ref t0) .none .none)]) hA hst hff X T ?kn ?k6 ?k7 ?k8 ?k9 ?kB ?_ ?c2 ?c3 ?c4 ?c5
  (case kn => intro b hb; rw [List.mem_singleton.mp hb]; exact ⟨hx, hbx, hxf⟩)
  (case k6 => k_dflt k_is); (case k7 => k_dflt k_is); (case k8 => exact Nat.lt_of_le_of_lt hdp (by decide)); (case k9 => exact binds_K (X.keeps hst) rfl (by k_is) rfl rfl rfl); (case c5 => decide); (case kB => exact locs rfl); (case c2 => exact rfl); (case c3 => exact rfl); (case c4 => exact rfl)
  intro g' L' h₁ F' N' B' X' T' hL' hin hout hlt
  subst hL'
  clear hout hlt hx hbx hxf hst hff
  k_fold
  repeat' ((fail_if_success (with_reducible show wpAny _ _ (call (Value.ref _) _) _ _ _)); first | (with_reducible refine execs_one ?_; (try dsimp only)) | (with_reducible ((with_reducible show wpAny _ _ (call (Value.builtin "repr") [Value.str _ _]) _ _ _); first | (refine Mine.call_reprL (y := quo x0) hr0 (by rw [sizeLine_eq]; omega) ?_) | (refine Mine.call_reprL (y := quo x1) hr1 (by rw [sizeLine_eq]; omega) ?_) | (refine Mine.call_reprL (y := PySem.Str.ofString "'a.ini'") (by decide +kernel) (by decide +kernel) ?_))) | (with_reducible ((with_reducible show wpAny _ _ (call (Value.builtin "str.format") _) _ _ _); (try dsimp only [List.nil_append, List.cons_append]); (with_reducible show wpAny _ _ (call (Value.builtin "str.format") [_, _]) _ _ _); with_reducible refine Mine.fn_fmt hn1 hn2 ?_; intro _ _)) | (with_reducible ((with_reducible show wpAny _ _ (call (Value.builtin "str.join") _) _ _ _); (try dsimp only [List.nil_append, List.cons_append]); (with_reducible show wpAny _ _ (call (Value.builtin "str.join") [_, _]) _ _ _); k_dflt (refine Mine.join_led (by k_asm) (by k_mem) (by repeat (first | exact .nil | (refine .cons (by first | assumption | omega | decide +kernel) ?_))) (Nat.le_of_ble_eq_true rfl) (words_ds n x0) ?_); intro _ _)) | walk1 | (dsimp only; walk1) | (dsimp only [List.nil_append, List.cons_append]; walk1) | fail "no step")
  refine init_K (init_err (mv := .str (wordsOf n (.ds x0))) (datStr (by first | rfl | (trace_state; fail "words")))) B' (by k_asm) (news_one (by k_asm) (by k_mem)) (fun p hp => absurd hp List.not_mem_nil) (Around.frames_deeper hA) rfl rfl X T cc (by rw [depth_deeper]; omega) ?_
  intro h2 d t es n tk2 F2 N2 nr2 len2 ms2 xd od ox
  obtain ⟨v2, ms2, hv2⟩ := ms2
  dsimp only
  refine st_attr F2 X' N2 od xd cc nr2 (by omega) rfl rfl cc.se ?_ rfl rfl rfl (by decide) rfl
  intro h3 es3 n3 tk3 F3 N3 P3
  dsimp only
  have q3 := P3.len
  refine st_attr F3 X' N3 od xd cc P3.nr (by omega) rfl rfl cc.so ?_ rfl rfl rfl (by decide) rfl
  intro h4 es4 n4 tk4 F4 N4 P4
  dsimp only
  have q4 := P4.len
  refine st_attr F4 X' N4 od xd cc P4.nr (by omega) rfl rfl cc.li ?_ rfl rfl rfl (by decide) rfl
  intro h5 es5 n5 tk5 F5 N5 P5
  dsimp only
  have q5 := P5.len
  refine st_args F5 X' N5 ox xd cc rfl (.cons rfl rfl (by decide) (.cons rfl rfl (by decide) (.cons rfl rfl (by decide) .nil))) (Nat.le_of_ble_eq_true rfl) ?_ rfl rfl rfl
  intro h9 t9 tk9 F9 N9 l9
  refine wpAny_execs_nil ?_
  k_unfold
  refine h h9 d t9 es5 n5 tk9 (made_end hin F9 N9 (.head _) (.tail _ (.head _)) (.tail _ (.tail _ (.head _))) P5.nr (by omega) ((P5.other _ (by decide)).trans ((P4.other _ (by decide)).trans ((P3.other _ (by decide)).trans ms2))) hv2 ?_)
  intro p hp
  rcases List.mem_cons.mp hp with rfl | hp
  · exact ((P5.other _ (by dsimp only; decide)).trans ((P4.other _ (by dsimp only; decide)).trans P3.same))
  rcases List.mem_cons.mp hp with rfl | hp
  · exact ((P5.other _ (by dsimp only; decide)).trans P4.same)
  rw [List.mem_singleton.mp hp]
  exact P5.same
theorem init_do {prog : Program} {w : World} {x0 x1 : Str} {n : Nat} {tk t1 ts tl : Tok} (hx0 : x0 ∈ secTexts) (hx1 : x1 ∈ optTexts) (hn1 : 1 ≤ n) (hn2 : n ≤ 22) : InitP prog w 940 5 96 [.str x0 tk, .str x1 t1, .str "a.ini" ts, .int n tl] [] (.str (wordsOf n (.dop x0 x1))) [.str x0 tk, .str x1 t1, .str "a.ini" ts, .int n tl] [("section", .str x0 tk), ("option", .str x1 t1), ("source", .str "a.ini" ts), ("lineno", .int n tl)] := by
  intro base l mg mb loose mean s R A x C t0 cc hst hff X T hA hdp hx hbx hxf h
  have hr0 := repr_sec x0 hx0
  obtain ⟨hl0, hq0⟩ := len_sec x0 hx0
  have hr1 := repr_opt x1 hx1
  obtain ⟨hl1, hq1⟩ := len_opt x1 hx1
  have hd0 := lineT_len n (by omega)
  w_on
  refine' enterL (binds := [("self", .ref x), ("section", .str x0 tk), ("option", .str x1 t1), ("source", .str "a.ini" ts), ("lineno", .int n tl)]) (news := [(x, excObj C none (.ref t0) .none .none)]) hA hst hff X T ?kn ?k6 ?k7 ?k8 ?k9 ?kB ?_ ?c2 ?c3 ?c4 ?c5
  (case kn => intro b hb; rw [List.mem_singleton.mp hb]; exact ⟨hx, hbx, hxf⟩)
  (case k6 => k_dflt k_is); (case k7 => k_dflt k_is); (case k8 => exact Nat.lt_of_le_of_lt hdp (by decide)); (case k9 => exact binds_K (X.keeps hst) rfl (by k_is) rfl rfl rfl); (case c5 => decide); (case kB => exact locs rfl); (case c2 => exact rfl); (case c3 => exact rfl); (case c4 => exact rfl)
  intro g' L' h₁ F' N' B' X' T' hL' hin hout hlt
  subst hL'
  clear hout hlt hx hbx hxf hst hff
  k_fold
  repeat' ((fail_if_success (with_reducible show wpAny _ _ (call (Value.ref _) _) _ _ _)); first | (with_reducible refine execs_one ?_; (try dsimp only)) | (with_reducible ((with_reducible show wpAny _ _ (call (Value.builtin "repr") [Value.str _ _]) _ _ _); first | (refine Mine.call_reprL (y := quo x0) hr0 (by rw [sizeLine_eq]; omega) ?_) | (refine Mine.call_reprL (y := quo x1) hr1 (by rw [sizeLine_eq]; omega) ?_) | (refine Mine.call_reprL (y := PySem.Str.ofString "'a.ini'") (by decide +kernel) (by decide +kernel) ?_))) | (with_reducible ((with_reducible show wpAny _ _ (call (Value.builtin "str.format") _) _ _ _); (try dsimp only [List.nil_append, List.cons_append]); (with_reducible show wpAny _ _ (call (Value.builtin "str.format") [_, _]) _ _ _); with_reducible refine Mine.fn_fmt hn1 hn2 ?_; intro _ _)) | (with_reducible ((with_reducible show wpAny _ _ (call (Value.builtin "str.join") _) _ _ _); (try dsimp only [List.nil_append, List.cons_append]); (with_reducible show wpAny _ _ (call (Value.builtin "str.join") [_, _]) _ _ _); k_dflt (refine Mine.join_led (by k_asm) (by k_mem) (by repeat (first | exact .nil | (refine .cons (by first | assumption | omega | decide +kernel) ?_))) (Nat.le_of_ble_eq_true rfl) (words_do n x0 x1) ?_); intro _ _)) | walk1 | (dsimp only; walk1) | (dsimp only [List.nil_append, List.cons_append]; walk1) | fail "no step")
  refine init_K (init_err (mv := .str (wordsOf n (.dop x0 x1))) (datStr (by first | rfl | (trace_state; fail "words")))) B' (by k_asm) (news_one (by k_asm) (by k_mem)) (fun p hp => absurd hp List.not_mem_nil) (Around.frames_deeper hA) rfl rfl X T cc (by rw [depth_deeper]; omega) ?_
  intro h2 d t es n tk2 F2 N2 nr2 len2 ms2 xd od ox
  obtain ⟨v2, ms2, hv2⟩ := ms2
  dsimp only
  refine st_attr F2 X' N2 od xd cc nr2 (by omega) rfl rfl cc.se ?_ rfl rfl rfl (by decide) rfl
  intro h3 es3 n3 tk3 F3 N3 P3
  dsimp only
  have q3 := P3.len
  refine st_attr F3 X' N3 od xd cc P3.nr (by omega) rfl rfl cc.op ?_ rfl rfl rfl (by decide) rfl
  intro h4 es4 n4 tk4 F4 N4 P4
  dsimp only
  have q4 := P4.len
  refine st_attr F4 X' N4 od xd cc P4.nr (by omega) rfl rfl cc.so ?_ rfl rfl rfl (by decide) rfl
  intro h5 es5 n5 tk5 F5 N5 P5
  dsimp only
  have q5 := P5.len
  refine st_attr F5 X' N5 od xd cc P5.nr (by omega) rfl rfl cc.li ?_ rfl rfl rfl (by decide) rfl
  intro h6 es6 n6 tk6 F6 N6 P6
  dsimp only
  have q6 := P6.len
  refine st_args F6 X' N6 ox xd cc rfl (.cons rfl rfl (by decide) (.cons rfl rfl (by decide) (.cons rfl rfl (by decide) (.cons rfl rfl (by decide) .nil)))) (Nat.le_of_ble_eq_true rfl) ?_ rfl rfl rfl
  intro h9 t9 tk9 F9 N9 l9
  refine wpAny_execs_nil ?_
  k_unfold
  refine h h9 d t9 es6 n6 tk9 (made_end hin F9 N9 (.head _) (.tail _ (.head _)) (.tail _ (.tail _ (.head _))) P6.nr (by omega) ((P6.other _ (by decide)).trans ((P5.other _ (by decide)).trans ((P4.other _ (by decide)).trans ((P3.other _ (by decide)).trans ms2)))) hv2 ?_)
  intro p hp
  rcases List.mem_cons.mp hp with rfl | hp
  · exact ((P6.other _ (by dsimp only; decide)).trans ((P5.other _ (by dsimp only; decide)).trans ((P4.other _ (by dsimp only; decide)).trans P3.same)))
  rcases List.mem_cons.mp hp with rfl | hp
  · exact ((P6.other _ (by dsimp only; decide)).trans ((P5.other _ (by dsimp only; decide)).trans P4.same))
  rcases List.mem_cons.mp hp with rfl | hp
  · exact ((P6.other _ (by dsimp only; decide)).trans P5.same)
  rw [List.mem_singleton.mp hp]
  exact P6.same
end Mine

end
section -- R1q
open PySem PySem.W PyProof.Rows Mine
set_option maxRecDepth 100000
set_option maxHeartbeats 1000000
set_option linter.unusedVariables false
namespace Mine
theorem app_len (a b : Str) : (a ++ b).length = a.length + b.length := by
  show (a.cps ++ b.cps).size = _
  rw [Array.size_append]; rfl
theorem quo_no : ∀ x ∈ secTexts ++ optTexts, (PySem.Builtin.Str.occurrences x "'" 0 x.length 1).isEmpty = true → ("'" : Str) ++ x ++ ("'" : Str) = quo x := by decide +kernel
theorem quo_yes : ∀ x ∈ secTexts ++ optTexts, (PySem.Builtin.Str.occurrences x "'" 0 x.length 1).isEmpty = false → ("\"" : Str) ++ x ++ ("\"" : Str) = quo x := by decide +kernel
theorem len_all : ∀ x ∈ secTexts ++ optTexts, x.length ≤ 8 ∧ (quo x).length ≤ 12 := by decide +kernel
theorem retS {R : Result → Shared → Prop} {y z : Str} {t : Tok} {s : Shared} (e : y = z) (H : R (.ok (.ret (.str z t))) s) : R (.ok (.ret (.str y t))) s := e ▸ H
theorem quoted_code {prog : Program} {w : World} {base : Heap} {l : List Env} {mg mb : Str → Option Value} {loose : List Str} {mean : ExcName → Option Value} {s : Shared} {R : Result → Shared → Prop} {A : Around} {x0 : Str} {t0 : Tok} (hx : x0 ∈ secTexts ++ optTexts)
    (hst : base.StaysIn s.heap) (hff : s.heap.FunFrames base l) (X : (hd.heap_39 w.params).In base) (T : Top hd.view_39 loose mean mg mb base) (hA : A.frames = some l) (hdp : A.depth ≤ 900)
    (h : ∀ h' t' tk', (∀ b o, s.heap.get? b = some o → h'.get? b = some o) → R (.ok (.ret (.str (quo x0) t'))) { s with heap := h', toks := tk' }) :
    codeAny (model prog w) A (.call (.ref 146) ⟨[.str x0 t0], []⟩) R s := by
  obtain ⟨hl0, hq0⟩ := len_all x0 hx
  have e1 : ("'" : Str).length = 1 := by decide +kernel
  have e2 : ("\"" : Str).length = 1 := by decide +kernel
  w_on
  refine' enter0 (binds := [("text", .str x0 t0)]) hA hst hff X T ?k6 ?k7 ?k8 ?k9 ?kB ?_ ?c2 ?c3 ?c4 ?c5
  (case k6 => k_dflt k_is); (case k7 => k_dflt k_is); (case k8 => exact Nat.lt_of_le_of_lt hdp (by decide)); (case k9 => exact BindsTo.of_eq rfl); (case c5 => decide); (case kB => exact locs rfl); (case c2 => exact rfl); (case c3 => exact rfl); (case c4 => exact rfl)
  intro L' h₁ F' N' B' X' T'
  k_fold
  repeat' (first | (with_reducible refine execs_one ?_; (try dsimp only)) | ((with_reducible show wpAny _ _ (binaryOp Operator.Add (Value.str _ _) (Value.str _ _)) _ _ _); k_dflt (refine add_str ?_ (by simp only [app_len]; rw [sizeLine_eq]; omega)); intro _ _; (try dsimp only)) | (walk1; (try dsimp only)) | (dsimp only; walk1) | (dsimp only [List.nil_append, List.cons_append]; walk1) | fail "no step")
  · k_unfold
    exact retS (quo_no x0 hx (by assumption)) (h _ _ _ F'.keep)
  · k_unfold
    exact retS (quo_yes x0 hx (by assumption)) (h _ _ _ F'.keep)
end Mine

end
section -- R1p
open PySem PySem.W PyProof.Rows Mine PySem.Builtin.Str
set_option maxRecDepth 100000
set_option maxHeartbeats 1000000
namespace Mine
structure PlaceAt (x : Str) (n : Nat) : Prop where
  f1 : PySem.Txt.find x "[line " = 27
  f3 : PySem.Txt.find3 x "]" 33 = 35
  sl : PySem.Txt.slice x (some 33) (some 35) = d2 n
  it : PySem.intText? (d2 n) = some (n : Int)
  ln : x.length ≤ 200
theorem sub_pre {p y z : Str} {i : Nat} (h : i + z.length ≤ p.length) : subAt (p ++ y) z i = subAt p z i := by
  unfold subAt
  have e : (p ++ y).cps.extract i (i + z.length) = p.cps.extract i (i + z.length) := by
    show (p.cps ++ y.cps).extract i (i + z.length) = _
    have h' : i + z.length ≤ p.cps.size := h
    rw [Array.extract_append]
    rw [show i + z.length - p.cps.size = 0 by omega]
    simp
  rw [e]
theorem find_pre {p y z : Str} {lo k : Nat} (hk : k + z.length ≤ p.length) (hlo : lo ≤ k) (h : subAt p z k = true) (hn : ∀ i, lo ≤ i → i < k → subAt p z i = false) : ∃ r, occurrences (p ++ y) z lo (p ++ y).length 1 = k :: r := by
  have hl : p.length ≤ (p ++ y).length := by rw [app_len]; omega
  rcases StrLaws.occ_head_from (p ++ y) z lo 1 (Nat.le_refl 1) with ⟨_, h2⟩ | ⟨i, r, e, h1, h2, h3⟩
  · exact absurd ⟨by omega, by rw [sub_pre hk]; exact h⟩ (h2 k hlo)
  · refine ⟨r, ?_⟩
    rw [e]
    congr 1
    rcases Nat.lt_trichotomy i k with q | q | q
    · have := h2.2
      rw [sub_pre (by omega), hn i h1 q] at this
      cases this
    · exact q
    · exact absurd ⟨by omega, by rw [sub_pre hk]; exact h⟩ (h3 k hlo q)
def preT (n : Nat) : Str := ("While reading from 'a.ini'" : Str) ++ lineT n
theorem pre_facts : ∀ n ∈ List.range' 1 22, (preT n).length = 36 ∧ subAt (preT n) "[line " 27 = true ∧ (∀ i ∈ List.range 27, subAt (preT n) "[line " i = false) ∧ subAt (preT n) "]" 35 = true ∧ subAt (preT n) "]" 33 = false ∧ subAt (preT n) "]" 34 = false ∧
    ((preT n).cps.toList.drop 33).take 2 = (d2 n).cps.toList ∧ PySem.intText? (d2 n) = some (n : Int) := by decide +kernel
theorem place_of {n : Nat} {y : Str} (h1 : 1 ≤ n) (h2 : n ≤ 22) (hy : y.length ≤ 100) : PlaceAt (preT n ++ y) n := by
  obtain ⟨a1, a2, a3, a4, a5, a6, a7, a8⟩ := pre_facts n (by rw [List.mem_range'_1]; omega)
  have z1 : ("[line " : Str).length = 6 := by decide +kernel
  have z2 : ("]" : Str).length = 1 := by decide +kernel
  have hl : (preT n ++ y).length = 36 + y.length := by rw [app_len, a1]
  refine ⟨?_, ?_, ?_, a8, by omega⟩
  · obtain ⟨r, e⟩ := find_pre (p := preT n) (y := y) (z := "[line ") (lo := 0) (k := 27) (by omega) (Nat.zero_le _) a2 (fun i _ hi => a3 i (List.mem_range.mpr hi))
    unfold PySem.Txt.find
    rw [e]; rfl
  · obtain ⟨r, e⟩ := find_pre (p := preT n) (y := y) (z := "]") (lo := 33) (k := 35) (by omega) (by omega) a4 (fun i h1 h2 => by
      rcases (show i = 33 ∨ i = 34 by omega) with rfl | rfl
      · exact a5
      · exact a6)
    unfold PySem.Txt.find3
    rw [show fromIndex (preT n ++ y).length 33 = 33 by unfold fromIndex; omega, e]; rfl
  · show StrLaws.sliceText (preT n ++ y) (some ((33 : Nat) : Int)) (some ((35 : Nat) : Int)) = _
    rw [StrLaws.sliceText_nat _ (by omega) (by omega)]
    have e : ((preT n ++ y).cps.toList.drop 33).take (35 - 33) = ((preT n).cps.toList.drop 33).take 2 := by
      show (((preT n).cps ++ y.cps).toList.drop 33).take 2 = _
      have a1' : (preT n).cps.toList.length = 36 := a1
      rw [Array.toList_append, List.drop_append_of_le_length (by omega), List.take_append_of_le_length (by rw [List.length_drop]; omega)]
    rw [e, a7]
end Mine

end
section -- R1r
open PySem PySem.W PyProof.Rows Mine
set_option maxRecDepth 100000
set_option maxHeartbeats 1000000
set_option linter.unusedVariables false
namespace Mine

theorem place_code {prog : Program} {w : World} {base : Heap} {l : List Env} {mg mb : Str → Option Value} {loose : List Str} {mean : ExcName → Option Value} {s : Shared} {R : Result → Shared → Prop} {A : Around} {x0 : Str} {n : Nat} {t0 : Tok} (hx : PlaceAt x0 n) (hn2 : n ≤ 22)
    (hst : base.StaysIn s.heap) (hff : s.heap.FunFrames base l) (X : (hd.heap_39 w.params).In base) (T : Top hd.view_39 loose mean mg mb base) (hA : A.frames = some l) (hdp : A.depth ≤ 900)
    (h : ∀ h' t' tk', (∀ b o, s.heap.get? b = some o → h'.get? b = some o) → R (.ok (.ret (.int ((n : Int) - 1) t'))) { s with heap := h', toks := tk' }) :
    codeAny (model prog w) A (.call (.ref 134) ⟨[.str x0 t0], []⟩) R s := by
  obtain ⟨f1, f3, sl, it, ln⟩ := hx
  have hl := d2_len n (by omega)
  have e0 : PySem.Txt.slice x0 (some (27 + 6)) (some (PySem.Txt.find3 x0 "]" (27 + 6))) = d2 n := by rw [show (27 : Int) + 6 = 33 from rfl, f3]; exact sl
  have it0 := it
  rw [← e0] at it0 hl
  w_on
  refine' enter0 (binds := [("words", .str x0 t0)]) hA hst hff X T ?k6 ?k7 ?k8 ?k9 ?kB ?_ ?c2 ?c3 ?c4 ?c5
  (case k6 => k_dflt k_is); (case k7 => k_dflt k_is); (case k8 => exact Nat.lt_of_le_of_lt hdp (by decide)); (case k9 => exact BindsTo.of_eq rfl); (case c5 => decide); (case kB => exact locs rfl); (case c2 => exact rfl); (case c3 => exact rfl); (case c4 => exact rfl)
  intro L' h₁ F' N' B' X' T'
  k_fold
  repeat' (first | (with_reducible refine execs_one ?_; (try dsimp only)) | ((with_reducible show wpAny _ _ (call (Value.builtin "str.find") _) _ _ _); (try dsimp only [List.nil_append, List.cons_append]); (with_reducible show wpAny _ _ (call (Value.builtin "str.find") [_, _]) _ _ _); k_dflt (refine KXw.find f1 ?_); intro _ _; (try dsimp only)) | (((with_reducible show wpAny _ _ (call (Value.type "int") [Value.str _ _]) _ _ _); k_dflt (refine KIN.call_text it0 (by omega) ?_)); (try dsimp only)) | (walk1; (try dsimp only)) | (dsimp only; walk1) | (dsimp only [List.nil_append, List.cons_append]; walk1) | fail "no step")
  k_unfold
  exact h _ _ _ (by k_asm : Fr s.heap L' _ _).keep
end Mine

end
section -- R1l
set_option maxRecDepth 100000
set_option maxHeartbeats 1000000
set_option linter.unusedVariables false
namespace Mine
open PySem PySem.W PySem.Calls PyProof.Rows PyProof.V
section
variable {prog : Program} {w : World} {A : Around} {E : Value → Shared → Prop} {s : Shared} {env : Env} {h₀ : Heap} {x : Str} {body : List Stmt} {Q : Flow → Shared → Prop}
def EndL (h₀ : Heap) (L : Addr) (J : (Str → Option Value) → List (Addr × Obj) → Prop) (I : Addr) (oI : Obj) (s₁ s₂ : Shared) : Prop :=
  ∃ h' tk m' nx, s₂ = { s₁ with heap := h', toks := tk } ∧ Fr h₀ L h' m' ∧ News h₀ L h' ((I, oI) :: nx) ∧ (∀ p ∈ nx, p.1 ≠ I) ∧ J m' nx
def PostL (h₀ : Heap) (L : Addr) (J : (Str → Option Value) → List (Addr × Obj) → Prop) (I : Addr) (oI : Obj) (s₁ : Shared) (Q : Flow → Shared → Prop) (f : Flow) (s₂ : Shared) : Prop :=
  match f with
  | .ret v => Q (.ret v) s₂
  | .brk => Q .next s₂
  | _ => EndL h₀ L J I oI s₁ s₂
/-- a turn that neither leaves nor gives back -/
def PostT (h₀ : Heap) (L : Addr) (J : (Str → Option Value) → List (Addr × Obj) → Prop) (I : Addr) (oI : Obj) (s₁ : Shared) (f : Flow) (s₂ : Shared) : Prop := f = .next ∧ EndL h₀ L J I oI s₁ s₂
/-- a loop over range(n); the ledger may grow -/
theorem iter_rangeGL {r : Addr} {n : Nat} {t u v : Tok} {m₀ : Str → Option Value} {news : List (Addr × Obj)} (J : Nat → (Str → Option Value) → List (Addr × Obj) → Prop)
    (hh : A.handled = none) (hr : IsRange s.heap r 0 n 1 t u v) (hsmall : Builtin.Range.small 0 n 1 = true) (hn : Builtin.Range.rangeSize 0 n 1 = (n : Int)) (F : Fr h₀ env.locals s.heap m₀) (N : News h₀ env.locals s.heap news) (hj : J 0 m₀ news)
    (turn : ∀ i t m₁ news₁ h tk I oI, i < n → oI.cls ≠ .type "traceback" → (∀ p ∈ news₁, p.1 ≠ I) → J i m₁ news₁ → Fr h₀ env.locals h (fun y => if y = x then some (.int (i : Int) t) else m₁ y) → News h₀ env.locals h ((I, oI) :: news₁) →
      wpAny (model prog w) A (execs body env) (PostL h₀ env.locals (J (i + 1)) I oI { s with heap := h, toks := tk } Q) E { s with heap := h, toks := tk })
    (done : ∀ m₁ news₁ h tk, J n m₁ news₁ → Fr h₀ env.locals h m₁ → News h₀ env.locals h news₁ → Q .next { s with heap := h, toks := tk }) :
    wpAny (model prog w) A (pyIter (.ref r)) (fun it s₂ => LoopAtV prog w A h₀ env x body Q E it s₂) E s := by
  refine wpAny_pyIter_range hr hsmall ?_
  have W := Walks.range (prog := prog) (w := w) hh s.heap.objs.size 0 1 n
  refine ⟨_, _, _, n, _, _, m₀, news, J, rfl, W, ?_, ?_, ?_, ?_, F.push _, (fun p hp => ⟨Heap.get?_push_of_some _ (N p hp).1, (N p hp).2⟩), hj, ?_, ?_⟩
  · intro hm
    exact absurd F.ns.lt ((List.mem_singleton.mp hm) ▸ Nat.lt_irrefl _)
  · intro b hb
    rw [List.mem_singleton.mp hb]
    exact next_is_new F
  · intro p hp hI
    exact absurd (Heap.lt_size (N p hp).1) ((List.mem_singleton.mp hI) ▸ Nat.lt_irrefl _)
  · show IsRangeIter _ _ _ _ _
    rw [hn]; simpa using Heap.get?_push_size _ rfl
  · rintro i v m₁ news₁ s₁ own ⟨hh', tk', rfl⟩ hin ⟨tv, rfl⟩ hJ hoff hown hget hfp hst F₁ N₁
    have hI0 : h₀.get? s.heap.objs.size = none := next_is_new F
    rw [show (0 : Int) + (i : Int) * 1 = (i : Int) by omega] at F₁
    have hst' : IsRangeIter hh' s.heap.objs.size _ _ _ := hst
    obtain ⟨oI, hoI, hIc⟩ : ∃ oI, hh'.get? s.heap.objs.size = some oI ∧ oI.cls = .type "range_iterator" := ⟨_, hst', rfl⟩
    have hIown : (s.heap.objs.size, oI) ∈ own := hfp _ (.head _) hI0 _ hoI
    have N₂ : News h₀ env.locals hh' ((s.heap.objs.size, oI) :: news₁) := fun p hp => N₁ p ((List.mem_cons.mp hp).elim (fun h => List.mem_append.mpr (.inl (h ▸ hIown))) fun h => List.mem_append.mpr (.inr h))
    have hcls : oI.cls ≠ .type "traceback" := by
      intro z
      rw [hIc] at z
      exact absurd z (by simp)
    refine wpAny_mono (turn i tv m₁ news₁ hh' tk' s.heap.objs.size oI hin hcls (fun p hp z => hoff p hp (List.mem_singleton.mpr z)) hJ F₁ N₂) (fun f s₂ p => ?_) fun _ _ e => e
    have fin : EndL h₀ env.locals (J (i + 1)) s.heap.objs.size oI { s with heap := hh', toks := tk' } s₂ → LoopStepU h₀ env.locals [s.heap.objs.size] own (J (i + 1)) { s with heap := hh', toks := tk' } .next s₂ := by
      rintro ⟨h', tk, m', nx, e, F', N', ha, hm⟩
      refine ⟨rfl, h', tk, m', nx, e, F', fun p hp => ?_, fun p hp hq => ha p hp (List.mem_singleton.mp hq), hm⟩
      rcases List.mem_append.mp hp with h | h
      · have hg := hget p h
        simp only at hg
        have h1 := List.mem_singleton.mp (hown p h)
        rw [h1, hoI] at hg
        have h3 : p = (s.heap.objs.size, oI) := Prod.ext h1 (Option.some.inj hg).symm
        rw [h3]; exact N' _ (.head _)
      · exact N' p (.tail _ h)
    cases f with
    | ret v => exact .ret p
    | brk => exact .brk p
    | next => exact .next (fin p)
    | cont => exact .cont (fin p)
  · rintro h' tk m' news' F' N' _ hJ
    exact done m' news' h' tk hJ F' N'
/-- a loop over a list below, its items named by the target; the ledger may grow -/
theorem iter_tupGL {target : Expr} {l : Addr} {vs : List Value} {m₀ : Str → Option Value} {news : List (Addr × Obj)} (J : Nat → (Str → Option Value) → List (Addr × Obj) → Prop)
    (hh : A.handled = none) (hl : h₀.IsList l vs.toArray) (F : Fr h₀ env.locals s.heap m₀) (N : News h₀ env.locals s.heap news) (hj : J 0 m₀ news)
    (hgo : ∀ I i v (s' : Shared) (Q' : Unit → Shared → Prop), s'.heap.IsListIter I l i → Q' () s' → wpAny (model prog w) A (letOwnedTupleGo target (.ref I) v) Q' E s')
    (turn : ∀ i v m₁ news₁ (s₁ : Shared) I oI, vs[i]? = some v → oI.cls ≠ .type "traceback" → (∀ p ∈ news₁, p.1 ≠ I) → J i m₁ news₁ → Fr h₀ env.locals s₁.heap m₁ → News h₀ env.locals s₁.heap ((I, oI) :: news₁) →
      wpAny (model prog w) A (assign target env v) (fun _ s₃ => wpAny (model prog w) A (execs body env) (PostT h₀ env.locals (J (i + 1)) I oI s₁) E s₃) E s₁)
    (done : ∀ m₁ news₁ h tk, J vs.length m₁ news₁ → Fr h₀ env.locals h m₁ → News h₀ env.locals h news₁ → Q .next { s with heap := h, toks := tk }) :
    wpAny (model prog w) A (pyIter (.ref l)) (fun it s₂ => LoopAtT prog w A h₀ env target body Q E it s₂) E s := by
  have hls : s.heap.IsList l vs.toArray := hl.at fun o e => F.keep l o e
  have hln : h₀.get? l ≠ none := by obtain ⟨o, ho, _⟩ := id hl; rw [ho]; exact fun z => by cases z
  obtain ⟨ol, hol, _⟩ := id hls
  have hne : l ≠ s.heap.objs.size := Nat.ne_of_lt (Heap.lt_size hol)
  refine wpAny_pyIter_list hls ?_
  have W := Walks.list (prog := prog) (w := w) hh s.heap.objs.size l hne vs.toArray
  refine ⟨_, _, _, vs.toArray.size, _, _, m₀, news, J, rfl, W, ?_, ?_, ?_, ⟨⟨_, Heap.get?_push_size _ rfl, rfl, rfl⟩, hls.at fun o e => Heap.get?_push_of_some _ e⟩, F.push _, (fun p hp => ⟨Heap.get?_push_of_some _ (N p hp).1, (N p hp).2⟩), ?_, hj, ?_, ?_⟩
  · intro hm
    rcases List.mem_cons.mp hm with e | hm
    · exact absurd F.ns.lt (e ▸ Nat.lt_irrefl _)
    · have e := List.mem_singleton.mp hm
      have z := Heap.get?_none_of_le F.above
      rw [e] at z
      exact hln z
  · intro b hb
    rw [List.mem_singleton.mp hb]
    exact next_is_new F
  · intro p hp hI
    exact absurd (Heap.lt_size (N p hp).1) ((List.mem_singleton.mp hI) ▸ Nat.lt_irrefl _)
  · rintro i s' v Q' ⟨h1, _⟩ hq
    exact hgo _ i v s' Q' h1 hq
  · rintro i v m₁ news₁ s₁ own hin hP hJ hoff hown hget hfp hst F₁ N₁
    have hI0 : h₀.get? s.heap.objs.size = none := next_is_new F
    obtain ⟨⟨oI, hoI, hIc⟩, _⟩ := id hst
    have hIown : (s.heap.objs.size, oI) ∈ own := hfp _ (List.mem_cons.mpr (.inl rfl)) hI0 _ hoI
    have N₂ : News h₀ env.locals s₁.heap ((s.heap.objs.size, oI) :: news₁) := fun p hp => N₁ p ((List.mem_cons.mp hp).elim (fun h => List.mem_append.mpr (.inl (h ▸ hIown))) fun h => List.mem_append.mpr (.inr h))
    have hcls : oI.cls ≠ .type "traceback" := by
      intro z
      rw [hIc.1] at z
      exact absurd z (by simp)
    refine wpAny_mono (turn i v m₁ news₁ s₁ s.heap.objs.size oI (by simpa using hP) hcls (fun p hp z => hoff p hp (List.mem_singleton.mpr z)) hJ F₁ N₂) (fun _ s₃ p => wpAny_mono p (fun f s₂ p => ?_) fun _ _ e => e) fun _ _ e => e
    obtain ⟨rfl, h', tk, m', nx, e, F', N', ha, hm⟩ := p
    refine ⟨rfl, h', tk, m', nx, e, F', fun p hp => ?_, fun p hp hq => ha p hp (List.mem_singleton.mp hq), hm⟩
    rcases List.mem_append.mp hp with h | h
    · have hg := hget p h
      rcases List.mem_cons.mp (hown p h) with h1 | h1
      · rw [h1, hoI] at hg
        have h3 : p = (s.heap.objs.size, oI) := Prod.ext h1 (Option.some.inj hg).symm
        rw [h3]; exact N' _ (.head _)
      · have h1 := List.mem_singleton.mp h1
        exact absurd (by rw [← h1]; exact (N₁ p (List.mem_append.mpr (.inl h))).2.2) hln
    · exact N' p (.tail _ h)
  · rintro h' tk m' news' F' N' _ hJ
    rw [List.size_toArray] at hJ
    exact done m' news' h' tk hJ F' N'
theorem len_q {Q : Value → Shared → Prop} {L q : Addr} {m : Str → Option Value} {vs : List Value} {n : Nat} (F : Fr h₀ L s.heap m) (hl : h₀.IsList q vs.toArray) (e : vs.length = n) (hz : n ≤ 1000)
    (h : ∀ t k, Q (.int (n : Int) t) { s with toks := k }) : wpAny (model prog w) A (call (.builtin "len") [.ref q]) Q E s := by
  subst e
  refine len_list (hl.at fun o e => F.keep q o e) (by rw [List.size_toArray]; omega) ?_
  rw [List.size_toArray]
  exact h _ _
theorem range_small (n : Nat) (hz : n ≤ 1000) : Builtin.Range.small 0 n 1 = true ∧ Builtin.Range.rangeSize 0 n 1 = (n : Int) := by
  refine ⟨?_, ?_⟩
  · exact small_one (by decide) (by decide) (by omega) (by omega)
  · rw [rangeSize_nat]; omega
end
end Mine

end
section -- R1x
set_option maxRecDepth 100000
set_option maxHeartbeats 1000000
set_option linter.unusedVariables false
namespace Mine
open PySem PySem.W PyProof.Rows

theorem notTb {o : Obj} (h : o.cls ≠ .type "traceback") : ¬ isTb o := fun x => h x.1
theorem notTbL {xs : Array Value} {n : Nat} : ¬ isTb (listOf xs n) := fun x => by obtain ⟨_, _, h⟩ := x; cases h
theorem notTbD {xs : List DictEntry} {n : Nat} : ¬ isTb (dictOf xs n) := fun x => by obtain ⟨_, _, h⟩ := x; cases h
theorem notTbT {xs : List Value} : ¬ isTb (tupObj xs) := fun x => by obtain ⟨_, _, h⟩ := x; cases h
theorem notTbE {C : Addr} {d : Option Addr} {a tb ctx : Value} : ¬ isTb (excObj C d a tb ctx) := fun x => by obtain ⟨h, _⟩ := x; cases h
/-- nothing stands there, but maybe a traceback -/
def New (h : Heap) (a : Addr) : Prop := ∀ o, h.get? a = some o → isTb o
theorem New.of_none {h : Heap} {a : Addr} (x : h.get? a = none) : New h a := fun o ho => by rw [x] at ho; cases ho
theorem New.back {fs X : List Addr} {h h' : Heap} {a : Addr} (N : New h' a) (K : Kept fs X h h') (hx : a ∉ X) : New h a := fun o ho => by
  apply Classical.byContradiction
  intro hnt
  obtain ⟨sl, e, _⟩ := K a o ho hx hnt
  exact isTb_slots hnt (N _ e)
theorem New.keeps {h h' : Heap} {a : Addr} (N : New h' a) (K : ∀ b o, h.get? b = some o → h'.get? b = some o) : New h a := fun o ho => N o (K a o ho)
theorem New.ne {h : Heap} {a b : Addr} {o : Obj} (N : New h a) (hb : h.get? b = some o) (hnt : ¬ isTb o) : a ≠ b := fun z => hnt (N o (z ▸ hb))
theorem New.frames {h base : Heap} {l : List Env} {a : Addr} (N : New h a) (hff : h.FunFrames base l) : a ∉ l.filterMap (·.frame) := fun z => by
  obtain ⟨_, o, ho, hnf⟩ := hff.mem z
  obtain ⟨_, vs, hv⟩ := N o ho
  exact hnf vs hv
theorem Kept.oldN {fs fs' X X' : List Addr} {h h₂ : Heap} (x : Kept fs' X' h h₂) (h1 : ∀ b ∈ fs', b ∈ fs ∨ New h b) (h2 : ∀ b ∈ X', b ∈ X ∨ New h b) : Kept fs X h h₂ := fun b o e hx hb => by
  obtain ⟨sl, e1, k1⟩ := x b o e (fun q => (h2 b q).elim hx fun z => hb (z o e)) hb
  exact ⟨sl, e1, fun n => k1 fun q => (h1 b q).elim n fun z => hb (z o e)⟩
theorem exc_notFrame {h base : Heap} {l : List Env} {a C : Addr} {d : Option Addr} {ar tb ctx : Value} (ha : h.get? a = some (excObj C d ar tb ctx)) (hff : h.FunFrames base l) : a ∉ l.filterMap (·.frame) := fun z => by
  obtain ⟨_, o, ho, hnf⟩ := hff.mem z
  rw [ha] at ho; injection ho with ho; subst ho; exact hnf _ rfl

/-- what an error of ours bears beside its words and args -/
def attrsOf (n : Nat) : Flt → List (Str × Dat)
  | .ds s => [("section", .str s), ("source", .str "a.ini"), ("lineno", .int n)]
  | .dop s o => [("section", .str s), ("option", .str o), ("source", .str "a.ini"), ("lineno", .int n)]
  | .ns s => [("section", .str s)]
  | .no o s => [("option", .str o), ("section", .str s)]
/-- an error of ours -/
structure FltAt (f : Flt) (n : Nat) (h : Heap) (e d t : Addr) (tb ctx : Value) : Prop where
  ex : h.get? e = some (excObj (fltCls f) (some d) (.ref t) tb ctx)
  di : ∃ es m, h.get? d = some (dictOf es m) ∧ NoRef es ∧ (∃ v, fnd "message" es = some v ∧ DatIn [] v (.str (wordsOf n f))) ∧ ∀ p ∈ attrsOf n f, ∃ v, fnd p.1 es = some v ∧ DatIn [] v p.2
  tu : ∃ vs, h.get? t = some (tupObj vs) ∧ DatAll [] vs (argsOf n f)
theorem FltAt.kept {f : Flt} {n : Nat} {fs X : List Addr} {h h' : Heap} {e d t : Addr} {tb tb' ctx ctx' : Value} (x : FltAt f n h e d t tb ctx) (K : Kept fs X h h') (he : h'.get? e = some (excObj (fltCls f) (some d) (.ref t) tb' ctx')) (h1 : d ∉ X) (h2 : t ∉ X) (h3 : d ∉ fs) (h4 : t ∉ fs) : FltAt f n h' e d t tb' ctx' := by
  obtain ⟨_, ⟨es, m, hd, r⟩, ⟨vs, ht, r2⟩⟩ := x
  exact ⟨he, ⟨es, m, K.get hd h1 notTbD h3, r⟩, ⟨vs, K.get ht h2 notTbT h4, r2⟩⟩
theorem FltAt.de {f : Flt} {n : Nat} {h : Heap} {e d t : Addr} {tb ctx : Value} (x : FltAt f n h e d t tb ctx) : d ≠ e ∧ t ≠ e ∧ d ≠ t := by
  obtain ⟨hx, ⟨es, m, hd, _⟩, ⟨vs, ht, _⟩⟩ := x
  refine ⟨fun z => ?_, fun z => ?_, fun z => ?_⟩
  · rw [z, hx] at hd; cases hd
  · rw [z, hx] at ht; cases ht
  · rw [z, ht] at hd; injection hd with hd; exact absurd (congrArg Obj.cls hd) (by simp)
section
variable {prog : Program} {w : World} {base h1 h2 g : Heap} {l : List Env} {s : Shared} {R : Result → Shared → Prop} {n tk2 : Nat} {L e2 d2 t2 a : Addr} {A₀ : Around} {m : Str → Option Value} {name : Str} {scope : Scope} {cd : Value} {f : Flt}
/-- an error of ours flies out -/
def Out (base : Heap) (l : List Env) (s : Shared) (f : Flt) (n : Nat) (R : Result → Shared → Prop) : Prop :=
  ∀ h' e d t tb tk', Kept (l.filterMap (·.frame)) [] s.heap h' → base.StaysIn h' → FltAt f n h' e d t tb .none → Fly base h' e tb .none → New s.heap e → New s.heap d → New s.heap t → base.get? e = none ∧ base.get? d = none ∧ base.get? t = none → R (.error (.ref e)) { s with heap := h', toks := tk' }
theorem read_end (B : Below A₀ base l g) (F : Fr g L h1 m) (hLn : s.heap.get? L = none) (X : (hd.heap_39 w.params).In base)
    (hS1 : ∀ b o, s.heap.get? b = some o → h1.get? b = some o) (hS2 : ∀ b o, h1.get? b = some o → h2.get? b = some o) (hE : FltAt f n h2 e2 d2 t2 .none .none) (n1 : h1.get? e2 = none) (n2 : h1.get? d2 = none) (n3 : h1.get? t2 = none)
    (h : Out base l s f n R) (hk' : scope.kind = .function) :
    ∃ e C d a', Value.ref e2 = .ref e ∧ h2.get? e = some (excObj C d a' .none .none) ∧ ECls (model prog w) h2 C ∧
      wpAny (model prog w) (A₀.deeper (envOf name scope L a cd)) (leaving (envOf name scope L a cd) (.ref e)) (fun _ s'' => R (.error (.ref e)) s'') (fun e' s'' => R (.error e') s'') { s with heap := h2, toks := tk2 } := by
  have BB : Below (A₀.deeper (envOf name scope L a cd)) base (envOf name scope L a cd :: l) h1 := B.push F hk'
  have hst2 : base.StaysIn h2 := fun b o e => hS2 b o (BB.stays b o e)
  have hff : h2.FunFrames base (envOf name scope L a cd :: l) := BB.frames.of_keeps fun b o hb _ => ⟨o, hS2 b o hb, rfl⟩
  have bn : ∀ {b}, h1.get? b = none → base.get? b = none := fun {b} hb => by
    cases z : base.get? b with
    | none => rfl
    | some o => rw [BB.stays _ _ z] at hb; cases hb
  have sn : ∀ {b}, h1.get? b = none → New s.heap b := fun {b} hb => (New.of_none hb).keeps hS1
  obtain ⟨nde, nte, _⟩ := hE.de
  refine ⟨e2, fltCls f, some d2, .ref t2, rfl, hE.ex, ecls_of (X.keeps hst2) (cc_all _ f).ex, ?_⟩
  refine leave_first (s := { s with heap := h2, toks := tk2 }) BB.stack hff rfl hE.ex hst2 (bn n1) fun h' tb' a1 a2 a3 a4 => ?_
  refine h h' e2 d2 t2 tb' tk2 ?_ a4 ?_ a2 (sn n1) (sn n2) (sn n3) ⟨bn n1, bn n2, bn n3⟩
  · refine Kept.oldN ((Kept.of_keeps fun b o hb => hS2 b o (hS1 b o hb)).trans a3) (fun b hb => ?_) fun b hb => ?_
    · rcases List.mem_cons.mp hb with z | z
      · exact .inr (.of_none (by rw [z]; exact hLn))
      · exact .inl z
    · rw [List.mem_singleton.mp hb]; exact .inr (sn n1)
  · exact hE.kept a3 a1 (by simp [nde]) (by simp [nte]) ((New.of_none n2).frames BB.frames) ((New.of_none n3).frames BB.frames)
end
end Mine
namespace Mine
open PySem PySem.W PyProof.Rows
section
variable {prog : Program} {w : World} {A A₀ : Around} {E : Value → Shared → Prop} {s : Shared} {base h₀ : Heap} {outer : List Env} {env : Env} {loose : List Str} {mean : ExcName → Option Value} {mg mb : Str → Option Value} {L fa : Addr} {m : Str → Option Value} {news : List (Addr × Obj)} {Q : Value → Shared → Prop} {args tv : List Value} {f : Flt} {n : Nat} {ats : List (Str × Value)}
theorem flt_K {Ln : Nat} (f : Flt) (n : Nat) (IP : InitP prog w 940 Ln fa args [] (.str (wordsOf n f)) tv ats) (hats : ∀ p ∈ attrsOf n f, ∃ v, (p.1, v) ∈ ats ∧ DatIn [] v p.2) (htv : DatAll [] tv (argsOf n f))
    (hi : findIn (hd.heap_39 w.params) (.ref (fltCls f)) "__init__" = some (some (.ref fa))) (hfn : isFn (hd.heap_39 w.params) (.ref fa) = true) (hz : args.length ≤ 10)
    (B : Below A₀ base outer h₀) (F : Fr h₀ L s.heap m) (N : News h₀ L s.heap news) (hA : A.frames = some (env :: outer)) (hf : env.frame = some L) (hke : env.scope.kind = .function)
    (X : (hd.heap_39 w.params).In base) (T : Top hd.view_39 loose mean mg mb base) (hdp : A.depth ≤ 900)
    (h : ∀ h' e d t tk', (∀ b o, s.heap.get? b = some o → h'.get? b = some o) → FltAt f n h' e d t .none .none → s.heap.get? e = none → s.heap.get? d = none → s.heap.get? t = none → Q (.ref e) { s with heap := h', toks := tk' }) :
    wpAny (model prog w) A (call (.ref (fltCls f)) args) Q E s := by
  refine make_K IP (cc_all _ f) B F N hA hf hke X T hi hfn hz (by omega) ?_
  intro h' e d t es m' tk' k1 k2 k3 k4 k5 k6 k7 k8 k9 k10
  refine h h' e d t tk' k1 ⟨k5, ⟨es, m', k6, k8, k9, fun p hp => ?_⟩, ⟨tv, k7, htv⟩⟩ k2 k3 k4
  obtain ⟨v, hv, hd⟩ := hats p hp
  exact ⟨v, k10 _ hv, hd⟩
theorem ds_K {x : Str} {n : Nat} {k : Int} {tk ts tl : Tok} (hn : k = n) (hx : x ∈ secTexts) (h1 : 1 ≤ n) (h2 : n ≤ 22)
    (B : Below A₀ base outer h₀) (F : Fr h₀ L s.heap m) (N : News h₀ L s.heap news) (hA : A.frames = some (env :: outer)) (hf : env.frame = some L) (hke : env.scope.kind = .function)
    (X : (hd.heap_39 w.params).In base) (T : Top hd.view_39 loose mean mg mb base) (hdp : A.depth ≤ 900)
    (h : ∀ h' e d t tk', (∀ b o, s.heap.get? b = some o → h'.get? b = some o) → FltAt (.ds x) n h' e d t .none .none → s.heap.get? e = none → s.heap.get? d = none → s.heap.get? t = none → Q (.ref e) { s with heap := h', toks := tk' }) :
    wpAny (model prog w) A (call (.ref 79) [.str x tk, .str "a.ini" ts, .int k tl]) Q E s := by
  subst hn
  refine flt_K (.ds x) n (init_ds hx h1 h2) (fun p hp => ?_) (.cons (.str _ _) (.cons (.str _ _) (.cons (.int _ _) .nil))) (by kernel_rfl) (by kernel_rfl) (Nat.le_of_ble_eq_true rfl) B F N hA hf hke X T hdp h
  simp only [attrsOf, List.mem_cons, List.not_mem_nil, or_false] at hp
  rcases hp with rfl | rfl | rfl
  · exact ⟨_, .head _, .str _ _⟩
  · exact ⟨_, .tail _ (.head _), .str _ _⟩
  · exact ⟨_, .tail _ (.tail _ (.head _)), .int _ _⟩
theorem do_K {x y : Str} {n : Nat} {k : Int} {tk t1 ts tl : Tok} (hn : k = n) (hx : x ∈ secTexts) (hy : y ∈ optTexts) (h1 : 1 ≤ n) (h2 : n ≤ 22)
    (B : Below A₀ base outer h₀) (F : Fr h₀ L s.heap m) (N : News h₀ L s.heap news) (hA : A.frames = some (env :: outer)) (hf : env.frame = some L) (hke : env.scope.kind = .function)
    (X : (hd.heap_39 w.params).In base) (T : Top hd.view_39 loose mean mg mb base) (hdp : A.depth ≤ 900)
    (h : ∀ h' e d t tk', (∀ b o, s.heap.get? b = some o → h'.get? b = some o) → FltAt (.dop x y) n h' e d t .none .none → s.heap.get? e = none → s.heap.get? d = none → s.heap.get? t = none → Q (.ref e) { s with heap := h', toks := tk' }) :
    wpAny (model prog w) A (call (.ref 99) [.str x tk, .str y t1, .str "a.ini" ts, .int k tl]) Q E s := by
  subst hn
  refine flt_K (.dop x y) n (init_do hx hy h1 h2) (fun p hp => ?_) (.cons (.str _ _) (.cons (.str _ _) (.cons (.str _ _) (.cons (.int _ _) .nil)))) (by kernel_rfl) (by kernel_rfl) (Nat.le_of_ble_eq_true rfl) B F N hA hf hke X T hdp h
  simp only [attrsOf, List.mem_cons, List.not_mem_nil, or_false] at hp
  rcases hp with rfl | rfl | rfl | rfl
  · exact ⟨_, .head _, .str _ _⟩
  · exact ⟨_, .tail _ (.head _), .str _ _⟩
  · exact ⟨_, .tail _ (.tail _ (.head _)), .str _ _⟩
  · exact ⟨_, .tail _ (.tail _ (.tail _ (.head _))), .int _ _⟩
theorem ns_K {x : Str} {tk : Tok} (n : Nat) (hx : x ∈ secTexts)
    (B : Below A₀ base outer h₀) (F : Fr h₀ L s.heap m) (N : News h₀ L s.heap news) (hA : A.frames = some (env :: outer)) (hf : env.frame = some L) (hke : env.scope.kind = .function)
    (X : (hd.heap_39 w.params).In base) (T : Top hd.view_39 loose mean mg mb base) (hdp : A.depth ≤ 900)
    (h : ∀ h' e d t tk', (∀ b o, s.heap.get? b = some o → h'.get? b = some o) → FltAt (.ns x) n h' e d t .none .none → s.heap.get? e = none → s.heap.get? d = none → s.heap.get? t = none → Q (.ref e) { s with heap := h', toks := tk' }) :
    wpAny (model prog w) A (call (.ref 59) [.str x tk]) Q E s := by
  refine flt_K (.ns x) n (init_ns hx) (fun p hp => ?_) (.cons (.str _ _) .nil) (by kernel_rfl) (by kernel_rfl) (Nat.le_of_ble_eq_true rfl) B F N hA hf hke X T hdp h
  simp only [attrsOf, List.mem_cons, List.not_mem_nil, or_false] at hp
  rcases hp with rfl
  exact ⟨_, .head _, .str _ _⟩
theorem no_K {x y : Str} {tk t1 : Tok} (n : Nat) (hx : x ∈ secTexts) (hy : y ∈ optTexts)
    (B : Below A₀ base outer h₀) (F : Fr h₀ L s.heap m) (N : News h₀ L s.heap news) (hA : A.frames = some (env :: outer)) (hf : env.frame = some L) (hke : env.scope.kind = .function)
    (X : (hd.heap_39 w.params).In base) (T : Top hd.view_39 loose mean mg mb base) (hdp : A.depth ≤ 900)
    (h : ∀ h' e d t tk', (∀ b o, s.heap.get? b = some o → h'.get? b = some o) → FltAt (.no y x) n h' e d t .none .none → s.heap.get? e = none → s.heap.get? d = none → s.heap.get? t = none → Q (.ref e) { s with heap := h', toks := tk' }) :
    wpAny (model prog w) A (call (.ref 118) [.str y t1, .str x tk]) Q E s := by
  refine flt_K (.no y x) n (init_no hx hy) (fun p hp => ?_) (.cons (.str _ _) (.cons (.str _ _) .nil)) (by kernel_rfl) (by kernel_rfl) (Nat.le_of_ble_eq_true rfl) B F N hA hf hke X T hdp h
  simp only [attrsOf, List.mem_cons, List.not_mem_nil, or_false] at hp
  rcases hp with rfl | rfl
  · exact ⟨_, .head _, .str _ _⟩
  · exact ⟨_, .tail _ (.head _), .str _ _⟩
end
end Mine

end
section -- R1s
set_option maxRecDepth 100000
set_option maxHeartbeats 1000000
set_option linter.unusedVariables false
namespace Mine
open PySem PySem.W PyProof.Rows
def optsIn (st : St) (s : Str) : List Str := (st.opts.filter fun p => p.1 = s).map (·.2)
theorem mem_optsIn {st : St} {s o : Str} : o ∈ optsIn st s ↔ (s, o) ∈ st.opts := by
  unfold optsIn
  rw [List.mem_map]
  constructor
  · rintro ⟨p, hp, rfl⟩
    obtain ⟨h1, h2⟩ := List.mem_filter.mp hp
    have h2 : p.1 = s := of_decide_eq_true h2
    subst h2
    exact h1
  · intro h
    exact ⟨(s, o), List.mem_filter.mpr ⟨h, decide_eq_true rfl⟩, rfl⟩
/-- where a reading may stand behind i rows -/
structure StOk (st : St) (i : Nat) : Prop where
  nd : st.secs.Nodup
  sx : ∀ s ∈ st.secs, s ∈ secTexts
  ox : ∀ p ∈ st.opts, p.2 ∈ optTexts
  os : ∀ p ∈ st.opts, p.1 ∈ st.secs
  ol : st.opts.length ≤ i
  sl : st.secs.length ≤ i
  nm : 0 < i → st.name ∈ st.secs
theorem StOk.start : StOk st0 0 := ⟨List.nodup_nil, fun _ h => absurd h List.not_mem_nil, fun _ h => absurd h List.not_mem_nil, fun _ h => absurd h List.not_mem_nil, Nat.le_refl _, Nat.le_refl _, fun h => absurd h (Nat.lt_irrefl _)⟩
theorem StOk.step {st : St} {i : Nat} {r : Row} (h : StOk st i) (hr : r.ok) (hf : fault st r = none) (hi : i = 0 → ∃ s, r = .head s) : StOk (next st r) (i + 1) := by
  obtain ⟨nd, sx, ox, os, ol, sl, nm⟩ := h
  cases r with
  | head s =>
    have hs : s ∉ st.secs := fun z => by rw [fault, if_pos z] at hf; cases hf
    refine ⟨?_, ?_, ox, fun p hp => List.mem_append.mpr (.inl (os p hp)), Nat.le_succ_of_le ol, ?_, fun _ => ?_⟩
    · show (st.secs ++ [s]).Nodup
      rw [List.nodup_append]
      refine ⟨nd, by simp, fun a ha b hb => ?_⟩
      rw [List.mem_singleton.mp hb]
      exact fun z => hs (z ▸ ha)
    · intro x hx
      rcases List.mem_append.mp hx with hx | hx
      · exact sx x hx
      · rw [List.mem_singleton.mp hx]; exact hr
    · show (st.secs ++ [s]).length ≤ _
      rw [List.length_append, List.length_singleton]; omega
    · exact List.mem_append.mpr (.inr (.head _))
  | opt o =>
    have hnm : st.name ∈ st.secs := by
      rcases Nat.eq_zero_or_pos i with z | z
      · obtain ⟨s, hs⟩ := hi z; cases hs
      · exact nm z
    refine ⟨nd, sx, fun p hp => ?_, fun p hp => ?_, ?_, Nat.le_succ_of_le sl, fun _ => hnm⟩
    · rcases List.mem_append.mp hp with hp | hp
      · exact ox p hp
      · rw [List.mem_singleton.mp hp]; exact hr
    · rcases List.mem_append.mp hp with hp | hp
      · exact os p hp
      · rw [List.mem_singleton.mp hp]; exact hnm
    · show (st.opts ++ [_]).length ≤ _
      rw [List.length_append, List.length_singleton]; omega
  | look o s =>
    refine ⟨nd, sx, ox, os, Nat.le_succ_of_le ol, Nat.le_succ_of_le sl, fun _ => ?_⟩
    rcases Nat.eq_zero_or_pos i with z | z
    · obtain ⟨s, hs⟩ := hi z; cases hs
    · exact nm z
theorem after_snoc {rs : List Row} {r : Row} : ∀ {st : St}, after st (rs ++ [r]) = next (after st rs) r := by
  induction rs with
  | nil => intro st; rfl
  | cons x rs ih => intro st; exact ih
theorem firstF_snoc {rs : List Row} {r : Row} : ∀ {st : St}, firstF st rs = none → fault (after st rs) r = none → firstF st (rs ++ [r]) = none := by
  induction rs with
  | nil =>
    intro st _ h
    show firstF st [r] = none
    unfold firstF
    have h' : fault st r = none := h
    rw [h']; rfl
  | cons x rs ih =>
    intro st h1 h2
    unfold firstF at h1
    show firstF st (x :: (rs ++ [r])) = none
    unfold firstF
    cases hf : fault st x with
    | some f => rw [hf] at h1; cases h1
    | none =>
      rw [hf] at h1
      dsimp only at h1 ⊢
      rw [Option.map_eq_none_iff] at h1 ⊢
      exact ih h1 h2
theorem firstF_app {rs ts : List Row} {r : Row} {f : Flt} : ∀ {st : St}, firstF st rs = none → fault (after st rs) r = some f → firstF st (rs ++ r :: ts) = some (rs.length, f) := by
  induction rs with
  | nil =>
    intro st _ h
    show firstF st (r :: ts) = _
    unfold firstF
    have h' : fault st r = some f := h
    rw [h']; rfl
  | cons x rs ih =>
    intro st h1 h2
    unfold firstF at h1
    show firstF st (x :: (rs ++ r :: ts)) = _
    unfold firstF
    cases hf : fault st x with
    | some f => rw [hf] at h1; cases h1
    | none =>
      rw [hf] at h1
      dsimp only at h1 ⊢
      rw [Option.map_eq_none_iff] at h1
      rw [ih h1 h2]; rfl
/-- behind i rows that go -/
structure At (rs : List Row) (i : Nat) (st : St) : Prop where
  eq : st = after st0 (rs.take i)
  no : firstF st0 (rs.take i) = none
  ok : StOk st i
def Starts (rs : List Row) : Prop := ∃ s r, rs = .head s :: r
theorem At.start (rs : List Row) : At rs 0 st0 := ⟨by simp [after], by simp [firstF], .start⟩
theorem take_snoc {rs : List Row} {i : Nat} {r : Row} (h : rs[i]? = some r) : rs.take (i + 1) = rs.take i ++ [r] := by
  rw [List.take_add_one, h]; rfl
theorem At.step {rs : List Row} {i : Nat} {st : St} {r : Row} (h : At rs i st) (hs : Starts rs) (hr : rs[i]? = some r) (ho : r.ok) (hf : fault st r = none) : At rs (i + 1) (next st r) := by
  obtain ⟨e, n, k⟩ := h
  refine ⟨?_, ?_, k.step ho hf fun z => ?_⟩
  · rw [take_snoc hr, after_snoc, ← e]
  · rw [take_snoc hr]
    exact firstF_snoc n (by rw [← e]; exact hf)
  · obtain ⟨s, t, rfl⟩ := hs
    subst z
    injection hr with hr
    exact ⟨s, hr.symm⟩
theorem At.fault {rs : List Row} {i : Nat} {st : St} {r : Row} {f : Flt} (h : At rs i st) (hr : rs[i]? = some r) (hf : fault st r = some f) : firstF st0 rs = some (i, f) := by
  obtain ⟨e, n, k⟩ := h
  have hi : i < rs.length := by
    rw [List.getElem?_eq_some_iff] at hr
    exact hr.1
  have hs : rs = rs.take i ++ r :: rs.drop (i + 1) := by
    have : rs.drop i = r :: rs.drop (i + 1) := by
      rw [List.drop_eq_getElem_cons hi]
      congr 1
      rw [List.getElem?_eq_getElem hi] at hr
      injection hr
    rw [← this, List.take_append_drop]
  have := firstF_app (ts := rs.drop (i + 1)) n (by rw [← e]; exact hf)
  rw [← hs, List.length_take, Nat.min_eq_left (Nat.le_of_lt hi)] at this
  exact this
theorem At.done {rs : List Row} {st : St} (h : At rs rs.length st) : firstF st0 rs = none := by
  have := h.no
  rwa [List.take_length] at this
theorem firstF_snoc_inv {rs : List Row} {r : Row} : ∀ {st : St}, firstF st (rs ++ [r]) = none → firstF st rs = none ∧ fault (after st rs) r = none := by
  induction rs with
  | nil =>
    intro st h
    have h : firstF st [r] = none := h
    unfold firstF at h
    refine ⟨rfl, ?_⟩
    show fault st r = none
    cases hf : fault st r with
    | none => rfl
    | some f => rw [hf] at h; cases h
  | cons x rs ih =>
    intro st h
    have h : firstF st (x :: (rs ++ [r])) = none := h
    unfold firstF at h ⊢
    cases hf : fault st x with
    | some f => rw [hf] at h; cases h
    | none =>
      rw [hf] at h
      dsimp only at h ⊢
      rw [Option.map_eq_none_iff] at h
      obtain ⟨h1, h2⟩ := ih h
      exact ⟨by rw [h1]; rfl, h2⟩
theorem at_take {rs : List Row} (hs : Starts rs) (ho : ∀ r ∈ rs, r.ok) : ∀ (i : Nat), i ≤ rs.length → firstF st0 (rs.take i) = none → At rs i (after st0 (rs.take i))
  | 0, _, _ => by rw [List.take_zero]; exact At.start rs
  | i + 1, hi, hn => by
    have hr : rs[i]? = some rs[i] := List.getElem?_eq_getElem (by omega)
    rw [take_snoc hr] at hn ⊢
    obtain ⟨h1, h2⟩ := firstF_snoc_inv hn
    rw [after_snoc]
    exact (at_take hs ho i (by omega) h1).step hs hr (ho _ (List.getElem_mem _)) h2
theorem fault_ok {rs : List Row} {p : Nat} {f : Flt} (hs : Starts rs) (ho : ∀ r ∈ rs, r.ok) (h : firstF st0 rs = some (p, f)) : f.ok := by
  obtain ⟨r, hr, hf, hn⟩ := firstF_at h
  have hp : p < rs.length := (List.getElem?_eq_some_iff.mp hr).1
  have A := at_take hs ho p (Nat.le_of_lt hp) hn
  have hro := ho r (List.mem_of_getElem? hr)
  cases r with
  | head s =>
    rw [fault] at hf
    split at hf
    · injection hf with hf; subst hf; exact hro
    · cases hf
  | opt o =>
    rw [fault] at hf
    split at hf
    · rename_i hm
      injection hf with hf; subst hf
      exact ⟨A.ok.sx _ (A.ok.os _ hm), hro⟩
    · cases hf
  | look o s =>
    rw [fault] at hf
    split at hf
    · split at hf
      · cases hf
      · injection hf with hf; subst hf; exact hro
    · injection hf with hf; subst hf; exact hro.2
theorem after_app {xs ys : List Row} : ∀ {st : St}, after st (xs ++ ys) = after (after st xs) ys := by
  induction xs with
  | nil => intro st; rfl
  | cons x xs ih => intro st; exact ih
theorem after_secs {ys : List Row} {s : Str} : ∀ {st : St}, s ∈ st.secs → s ∈ (after st ys).secs := by
  induction ys with
  | nil => intro st h; exact h
  | cons r ys ih =>
    intro st h
    refine ih (st := next st r) ?_
    cases r with
    | head x => exact List.mem_append.mpr (.inl h)
    | opt _ => exact h
    | look _ _ => exact h
theorem after_opts {ys : List Row} {q : Str × Str} : ∀ {st : St}, q ∈ st.opts → q ∈ (after st ys).opts := by
  induction ys with
  | nil => intro st h; exact h
  | cons r ys ih =>
    intro st h
    refine ih (st := next st r) ?_
    cases r with
    | head _ => exact h
    | opt _ => exact List.mem_append.mpr (.inl h)
    | look _ _ => exact h
theorem firstF_mid {xs ys : List Row} {r : Row} : ∀ {st : St}, firstF st (xs ++ r :: ys) = none → fault (after st xs) r = none := by
  induction xs with
  | nil =>
    intro st h
    have h : firstF st (r :: ys) = none := h
    unfold firstF at h
    show fault st r = none
    cases hf : fault st r with
    | none => rfl
    | some f => rw [hf] at h; cases h
  | cons x xs ih =>
    intro st h
    have h : firstF st (x :: (xs ++ r :: ys)) = none := h
    unfold firstF at h
    cases hf : fault st x with
    | some f => rw [hf] at h; cases h
    | none =>
      rw [hf] at h
      dsimp only at h
      rw [Option.map_eq_none_iff] at h
      exact ih h
theorem split_at {rs : List Row} {m p : Nat} {r : Row} (hm : m < p) (h : rs[m]? = some r) : ∃ ys, rs.take p = rs.take m ++ r :: ys := by
  refine ⟨(rs.take p).drop (m + 1), ?_⟩
  have hl : m < rs.length := (List.getElem?_eq_some_iff.mp h).1
  have hl2 : m < (rs.take p).length := by rw [List.length_take]; omega
  have e : (rs.take p).drop m = r :: (rs.take p).drop (m + 1) := by
    rw [List.drop_eq_getElem_cons hl2]
    congr 1
    rw [List.getElem_take]
    rw [List.getElem?_eq_getElem hl] at h
    injection h
  have e2 : rs.take m = (rs.take p).take m := by rw [List.take_take, Nat.min_eq_left (Nat.le_of_lt hm)]
  rw [e2, ← e, List.take_append_drop]
theorem first_ns {rs : List Row} {p : Nat} {s : Str} (h : firstF st0 rs = some (p, .ns s)) : (∃ o, rs[p]? = some (.look o s)) ∧ ∀ m, m < p → ∀ o, rs[m]? ≠ some (.look o s) := by
  obtain ⟨r, hr, hf, hn⟩ := firstF_at h
  have hs : (∃ o, r = .look o s) ∧ s ∉ (after st0 (rs.take p)).secs := by
    cases r with
    | head x => rw [fault] at hf; split at hf <;> first | cases hf | (injection hf with hf; cases hf)
    | opt x => rw [fault] at hf; split at hf <;> first | cases hf | (injection hf with hf; cases hf)
    | look o x =>
      rw [fault] at hf
      split at hf
      · split at hf <;> first | cases hf | (injection hf with hf; cases hf)
      · rename_i hx
        injection hf with hf
        injection hf with hf
        subst hf
        exact ⟨⟨o, rfl⟩, hx⟩
  obtain ⟨⟨o, rfl⟩, hns⟩ := hs
  refine ⟨⟨o, hr⟩, fun m hm o' hm' => ?_⟩
  obtain ⟨ys, e⟩ := split_at hm hm'
  rw [e] at hn hns
  have hg := firstF_mid hn
  rw [after_app] at hns
  rw [fault] at hg
  split at hg
  · rename_i hx
    exact hns (after_secs hx)
  · cases hg
theorem first_no {rs : List Row} {p : Nat} {o s : Str} (h : firstF st0 rs = some (p, .no o s)) : rs[p]? = some (.look o s) ∧ ∀ m, m < p → rs[m]? ≠ some (.look o s) := by
  obtain ⟨r, hr, hf, hn⟩ := firstF_at h
  have hs : r = .look o s ∧ (s, o) ∉ (after st0 (rs.take p)).opts := by
    cases r with
    | head x => rw [fault] at hf; split at hf <;> first | cases hf | (injection hf with hf; cases hf)
    | opt x => rw [fault] at hf; split at hf <;> first | cases hf | (injection hf with hf; cases hf)
    | look o' x =>
      rw [fault] at hf
      split at hf
      · split at hf
        · cases hf
        · rename_i hx
          injection hf with hf
          injection hf with hf1 hf2
          subst hf1 hf2
          exact ⟨rfl, hx⟩
      · injection hf with hf; cases hf
  obtain ⟨rfl, hno⟩ := hs
  refine ⟨hr, fun m hm hm' => ?_⟩
  obtain ⟨ys, e⟩ := split_at hm hm'
  rw [e] at hn hno
  have hg := firstF_mid hn
  rw [after_app] at hno
  rw [fault] at hg
  split at hg
  · split at hg
    · rename_i hx
      exact hno (after_opts hx)
    · cases hg
  · cases hg
theorem dats_inj {r r' : Row} (h : r.dats = r'.dats) : r = r' := by
  have n1 : ("head" : Str) ≠ "set" := by decide +kernel
  have n2 : ("head" : Str) ≠ "look" := by decide +kernel
  have n3 : ("set" : Str) ≠ "look" := by decide +kernel
  cases r <;> cases r' <;> simp only [Row.dats, List.cons.injEq, Dat.str.injEq, and_true, true_and] at h
  · rw [h]
  · exact absurd h.1 n1
  · exact absurd h.1 n2
  · exact absurd h.1.symm n1
  · rw [h]
  · exact absurd h.1 n3
  · exact absurd h.1.symm n2
  · exact absurd h.1.symm n3
  · rw [h.1, h.2]
end Mine

end
section -- R1u
set_option maxRecDepth 100000
set_option maxHeartbeats 400000
set_option linter.unusedVariables false
namespace Mine
open PySem PySem.W PyProof.Rows PySem.Calls
section
variable {prog : Program} {w : World} {A : Around} {E : Value → Shared → Prop} {s : Shared}
theorem draw_list {it t : Addr} {items : Array Value} (hne : t ≠ it) : ∀ (n i : Nat) (s : Shared) (Q : List Value → Shared → Prop), s.heap.IsListIter it t i → s.heap.IsList t items → i + n ≤ items.size →
    (∀ h', h'.IsListIter it t (i + n) → Heap.SameBut it s.heap h' → Q ((items.toList.drop i).take n) { s with heap := h' }) → wpAny (model prog w) A (draw (.ref it) n) Q E s
  | 0, i, s, Q, hit, _, _, hQ => by
    show wpAny _ _ (pure []) Q E s
    exact wpAny_pure (by simpa using hQ s.heap hit (Heap.SameBut.refl ..))
  | n + 1, i, s, Q, hit, ht, hle, hQ => by
    have hlt : i < items.size := by omega
    show wpAny _ _ (pyNext (.ref it) >>= _) Q E s
    refine wpAny_bind (wpAny_pyNext_list_item hit ht (x := items[i]) (by simp [hlt]) fun h₁ hit₁ hs₁ => ?_)
    refine wpAny_bind (wpAny_holding (draw_list hne n (i + 1) _ _ hit₁ (ht.extBut hs₁.extBut hne) (by omega) fun h₂ hit₂ hs₂ => wpAny_pure ?_))
    have hd : items.toList.drop i = items[i] :: items.toList.drop (i + 1) := by simp [List.drop_eq_getElem_cons, hlt]
    have := hQ h₂ (by rw [show i + (n + 1) = i + 1 + n by omega]; exact hit₂) (hs₁.trans hs₂)
    rw [hd, List.take_succ_cons] at this
    exact this
theorem unpackItems_list {t : Addr} {items : Array Value} {Q : List Value → Shared → Prop} (hh : A.handled = none) (ht : s.heap.IsList t items)
    (hQ : ∀ h', Heap.ExtBut s.heap.objs.size s.heap h' → Q items.toList { s with heap := h' }) : wpAny (model prog w) A (unpackItems (.ref t) items.size none) Q E s := by
  have hlt : t ≠ s.heap.objs.size := by obtain ⟨o, ho, _⟩ := ht; exact Nat.ne_of_lt (Heap.lt_size ho)
  unfold unpackItems
  refine wpAny_bind ?_
  · unfold notIterableAtAll
    refine wpAny_bind (wpAny_specialOf ht.typeIs slot_list_iter.lookup ?_)
    refine wpAny_pure ?_
    simp only [Bool.false_eq_true, if_false]
    refine wpAny_bind (wpAny_holding (wpAny_pyIter_list ht ?_))
    refine wpAny_bind (wpAny_holding (draw_list hlt items.size 0 _ _ ⟨_, Heap.get?_push_size _ rfl, rfl, rfl⟩ (ht.at fun o e => Heap.get?_push_of_some _ e) (by omega) fun h₁ hit₁ hs₁ => ?_))
    have hall : List.take items.size (List.drop 0 items.toList) = items.toList := by
      rw [List.drop_zero]; exact List.take_of_length_le (by simp)
    rw [hall]
    rw [if_neg (by simp)]
    have ht₁ : h₁.IsList t items := (ht.at fun o e => Heap.get?_push_of_some _ e).extBut hs₁.extBut hlt
    refine wpAny_bind (wpAny_holding (wpAny_pyNext_list_end hh hit₁ ht₁ (by simp) fun h₂ he₂ => ?_))
    simp only [Option.isSome_none, Bool.false_eq_true, if_false]
    refine wpAny_pure (hQ h₂ fun b o hb e => he₂ b o hb (hs₁.extBut b o hb (Heap.get?_push_of_some _ e)))
/-- a, b, c = a list -/
theorem unpackL {env : Env} {h₀ : Heap} {L : Addr} {m : Str → Option Value} {news : List (Addr × Obj)} {elts : List Expr} {k} {pos : Pos} {t : Addr} {items : List Value} {Q : Unit → Shared → Prop} (F : Fr h₀ L s.heap m) (N : News h₀ L s.heap news) (hh : A.handled = none) (ht : s.heap.IsList t items.toArray)
    (hn : (assignEach elts env).length = items.length) (hstar : (assignEach elts env).findIdx? (·.1) = none)
    (h : ∀ h', Fr h₀ L h' m → News h₀ L h' news → wpAny (model prog w) A (assignInOrder ((assignEach elts env).map (·.2)) items) Q E { s with heap := h' }) :
    wpAny (model prog w) A (assign (.Tuple elts k pos) env (.ref t)) Q E s := by
  rw [arm_assign_Tuple]
  refine wpAny_bind (wpAny_standAt ?_)
  unfold unpack
  rw [hn, hstar, show items.length = items.toArray.size from List.size_toArray.symm]
  refine wpAny_bind (wpAny_holding (unpackItems_list hh ht fun h' he => ?_))
  rw [List.toList_toArray]
  exact h h' (F.extBut he (Nat.le_refl _)) (N.extBut he (Nat.le_refl _))
end
end Mine

end
section -- R1v
set_option maxRecDepth 100000
set_option maxHeartbeats 1000000
set_option linter.unusedVariables false
namespace Mine
open PySem PySem.W PyProof.Rows
theorem valueAt_map {f : Str → Value} {k : Str} : ∀ (l : List Str), valueAt (l.map fun s => (s, f s)) k = if k ∈ l then some (f k) else none
  | [] => rfl
  | s :: l => by
    have ih := valueAt_map (f := f) (k := k) l
    unfold valueAt at ih ⊢
    rw [List.map_cons, List.find?_cons]
    by_cases h : s = k
    · subst h
      simp
    · rw [decide_eq_false h]
      dsimp only
      rw [ih]
      have h' : ¬ k = s := fun z => h z.symm
      simp only [List.mem_cons, h', false_or]
theorem stored_new {f : Str → Value} {k : Str} {v : Value} {l : List Str} (h : k ∉ l) : stored (l.map fun s => (s, f s)) k v = (l ++ [k]).map fun s => (s, if s = k then v else f s) := by
  unfold stored
  rw [if_neg]
  · rw [List.map_append]
    congr 1
    · refine List.map_congr_left fun s hs => ?_
      have e : ¬ s = k := fun z => h (z ▸ hs)
      simp only [if_neg e]
    · simp
  · rw [List.any_map, Bool.not_eq_true, List.any_eq_false]
    intro s hs z
    exact h (of_decide_eq_true z ▸ hs)
theorem upd_map {ad : Str → Addr} {lo : Str → Obj} {k : Str} {o' : Obj} : ∀ {l : List Str}, l.Nodup → k ∈ l → (∀ s ∈ l, ad s = ad k → s = k) → Upd (ad k) (lo k) o' (l.map fun s => (ad s, lo s)) (l.map fun s => (ad s, if s = k then o' else lo s))
  | [], _, h, _ => absurd h List.not_mem_nil
  | s :: l, nd, h, hi => by
    rw [List.map_cons, List.map_cons]
    by_cases e : s = k
    · subst e
      rw [if_pos rfl]
      have hn := (List.nodup_cons.mp nd).1
      have e2 : (l.map fun x => (ad x, if x = s then o' else lo x)) = l.map fun x => (ad x, lo x) := List.map_congr_left fun x hx => by
        have e : ¬ x = s := fun z => hn (z ▸ hx)
        simp only [if_neg e]
      rw [e2]
      refine .head fun p hp => ?_
      obtain ⟨x, hx, rfl⟩ := List.mem_map.mp hp
      exact fun z => hn (hi x (.tail _ hx) z ▸ hx)
    · rw [if_neg e]
      refine .tail (fun z => e (hi s (.head _) z)) (upd_map (List.nodup_cons.mp nd).2 ?_ fun x hx => hi x (.tail _ hx))
      rcases List.mem_cons.mp h with z | z
      · exact absurd z.symm e
      · exact z
/-- the reading's ledger behind i rows -/
structure ReadAt (prog : Program) (w : World) (rs : List Row) (i : Nat) (st : St) (q D : Addr) (oD : Obj) (ad : Str → Addr) (lo : Str → Obj) (m : Str → Option Value) : Prop where
  here : At rs i st
  dict : oD.IsDictOf (PySem.strKind prog w) (st.secs.map fun s => (s, .ref (ad s)))
  low : (D == sysModules) = false
  lists : ∀ s ∈ st.secs, ∃ vs n, lo s = listOf vs.toArray n ∧ DatAll [] vs ((optsIn st s).map Dat.str)
  offD : ∀ s ∈ st.secs, @Ne Nat (ad s) D
  inj : ∀ s ∈ st.secs, ∀ s' ∈ st.secs, ad s = ad s' → s = s'
  rows : m "rows" = some (.ref q)
  seen : m "seen" = some (.ref D)
  name : ∃ t, m "name" = some (.str st.name t)
def ReadJ (prog : Program) (w : World) (rs : List Row) (q : Addr) (i : Nat) (m : Str → Option Value) (nx : List (Addr × Obj)) : Prop :=
  ∃ st D oD ad lo, nx = (D, oD) :: st.secs.map (fun s => (ad s, lo s)) ∧ ReadAt prog w rs i st q D oD ad lo m
theorem item_q {prog : Program} {w : World} {A : Around} {E : Value → Shared → Prop} {s : Shared} {h₀ : Heap} {value slice : Expr} {Q : Value → Shared → Prop} {L q : Addr} {m : Str → Option Value} {vs : List Value} {i : Nat} {u : Tok} {x : Value} (F : Fr h₀ L s.heap m) (hl : h₀.IsList q vs.toArray) (hx : vs[i]? = some x) (hz : i ≤ 1000)
    (h : Q x s) (hs : subscripted slice false (.ref q) (.int i u) = operate [.ref q, .int i u] (getItem (.ref q) (.int i u)) := by with_unfolding_all rfl) (hg : ∀ r, letTemporaryGo value (.ref q) r = pure () := by intro _; with_unfolding_all rfl) :
    wpAny (model prog w) A (subscriptTail value slice (.ref q) (.int i u)) Q E s := by
  refine item_listL (hl.at fun o e => F.keep q o e) (by omega) (by omega) (by rw [Int.toNat_natCast]; exact hx) h hs hg
theorem ok_opt : ∀ s ∈ optTexts, kqdOk 8 (.str s) = true := by decide +kernel
theorem ok_sec : ∀ s ∈ secTexts, kqdOk 8 (.str s) = true := by decide +kernel
section
variable {prog : Program} {w : World} {A : Around} {E : Value → Shared → Prop} {s : Shared} {h₀ : Heap} {L a : Addr} {news : List (Addr × Obj)} {vs : List Value} {n : Nat} {x : Str} {xs : List Str} {t : Tok} {b : Bool} {Q : Value → Shared → Prop}
open Classical in
/-- a text in a list of texts -/
theorem in_lst (N : News h₀ L s.heap news) (hm : (a, listOf vs.toArray n) ∈ news) (hd : DatAll [] vs (xs.map Dat.str)) (hx : ∀ y ∈ xs, kqdOk 8 (.str y) = true) (hx1 : kqdOk 8 (.str x) = true) (hu : A.units + 64 < cLine) (hb : decide (x ∈ xs) = b) (h : Q (.bool b) s) :
    wpAny (model prog w) A (compareOp .In (.str x t) (.ref a)) Q E s := by
  refine kqd_isIn (d := .str x) N hm rfl rfl hd (fun _ z => absurd z List.not_mem_nil) (.str x t) (fun _ z => absurd z (List.not_mem_nil (a := _))) (fun d hd => ?_) hx1 hu ?_
  · obtain ⟨y, hy, rfl⟩ := List.mem_map.mp hd
    exact hx y hy
  · have e : (Dat.str x ∈ xs.map Dat.str) ↔ x ∈ xs := ⟨fun z => by obtain ⟨y, hy, e⟩ := List.mem_map.mp z; injection e with e; exact e ▸ hy, fun z => List.mem_map.mpr ⟨x, z, rfl⟩⟩
    subst hb
    by_cases hq : x ∈ xs
    · rw [decide_eq_true (e.mpr hq)]; rw [decide_eq_true hq] at h; exact h
    · rw [decide_eq_false fun z => hq (e.mp z)]; rw [decide_eq_false hq] at h; exact h
open Classical in
theorem notin_lst (N : News h₀ L s.heap news) (hm : (a, listOf vs.toArray n) ∈ news) (hd : DatAll [] vs (xs.map Dat.str)) (hx : ∀ y ∈ xs, kqdOk 8 (.str y) = true) (hx1 : kqdOk 8 (.str x) = true) (hu : A.units + 64 < cLine) (hb : (!decide (x ∈ xs)) = b) (h : Q (.bool b) s) :
    wpAny (model prog w) A (compareOp .NotIn (.str x t) (.ref a)) Q E s := by
  refine kqd_notIn (d := .str x) N hm rfl rfl hd (fun _ z => absurd z List.not_mem_nil) (.str x t) (fun _ z => absurd z (List.not_mem_nil (a := _))) (fun d hd => ?_) hx1 hu ?_
  · obtain ⟨y, hy, rfl⟩ := List.mem_map.mp hd
    exact hx y hy
  · have e : (Dat.str x ∈ xs.map Dat.str) ↔ x ∈ xs := ⟨fun z => by obtain ⟨y, hy, e⟩ := List.mem_map.mp z; injection e with e; exact e ▸ hy, fun z => List.mem_map.mpr ⟨x, z, rfl⟩⟩
    subst hb
    by_cases hq : x ∈ xs
    · rw [decide_eq_true (e.mpr hq)]; rw [decide_eq_true hq] at h; exact h
    · rw [decide_eq_false fun z => hq (e.mp z)]; rw [decide_eq_false hq] at h; exact h
end
theorem nin_dict {prog : Program} {w : World} {A : Around} {E : Value → Shared → Prop} {s : Shared} {h₀ : Heap} {L d : Addr} {news : List (Addr × Obj)} {o : Obj} {kvs : List (Str × Value)} {k : Str} {t : Tok} {b : Bool} {Q : Value → Shared → Prop} (N : News h₀ L s.heap news) (hp : (d, o) ∈ news) (hd : o.IsDictOf (PySem.strKind prog w) kvs) (lo : (d == sysModules) = false)
    (hb : (!(valueAt kvs k).isSome) = b) (h : Q (.bool b) { s with toks := s.toks + 1 }) : wpAny (model prog w) A (compareOp .NotIn (.str k t) (.ref d)) Q E s :=
  kdg_notin (knd := PySem.strKind _ _) N hp hd lo (strKind_is _ _ _ _) _ rfl (by rw [hb]; exact h)
theorem StOk.okIn {st : St} {i : Nat} (h : StOk st i) (s : Str) : ∀ y ∈ optsIn st s, kqdOk 8 (.str y) = true := fun y hy => ok_opt y (h.ox _ (mem_optsIn.mp hy))
theorem ne_cls {h : Heap} {a b : Addr} {oa ob : Obj} (ha : h.get? a = some oa) (hb : h.get? b = some ob) (hc : oa.cls ≠ ob.cls) : @Ne Nat a b := fun z => hc (by
  have z : a = b := z
  rw [z, hb] at ha
  injection ha with ha
  rw [ha])
theorem set_new {prog : Program} {w : World} {A : Around} {E : Value → Shared → Prop} {s : Shared} {h₀ : Heap} {L x I D : Addr} {oI oD ox : Obj} {ls : List (Addr × Obj)} {m : Str → Option Value} {kvs : List (Str × Value)} {k : Str} {t : Tok} {v : Value} {Q : Unit → Shared → Prop}
    (F : Fr h₀ L s.heap m) (N : News h₀ L s.heap ((x, ox) :: (I, oI) :: (D, oD) :: ls)) (lt : ∀ p ∈ (I, oI) :: (D, oD) :: ls, p.1 < x) (hID : @Ne Nat I D) (hls : ∀ p ∈ ls, @Ne Nat p.1 D) (hd : oD.IsDictOf (PySem.strKind prog w) kvs) (hsz : kvs.length ≤ sizeLine)
    (h : ∀ h' o', Fr h₀ L h' m → News h₀ L h' ((x, ox) :: (I, oI) :: (D, o') :: ls) → o'.IsDictOf (PySem.strKind prog w) (stored kvs k v) → Q () { s with heap := h', toks := s.toks + 1 }) :
    wpAny (model prog w) A (setItem (.ref D) (.str k t) v) Q E s :=
  kda_set (knd := PySem.strKind _ _) F N (.tail (Nat.ne_of_gt (lt _ (.tail _ (.head _)))) (.tail hID (.head hls))) hd (strKind_is _ _ _ _) hsz h
section
variable {prog : Program} {w : World} {rs : List Row} {i : Nat} {st : St} {q D : Addr} {oD oI : Obj} {ad : Str → Addr} {lo : Str → Obj} {m m' : Str → Option Value} {g h : Heap} {L I x : Addr} {s₁ : Shared} {tk : Nat}
/-- a section is opened -/
theorem read_head {s0 : Str} {o' : Obj} {t : Tok} (J : ReadAt prog w rs i st q D oD ad lo m) (hs : Starts rs) (hr : rs[i]? = some (.head s0)) (ho : (Row.head s0).ok) (hn : s0 ∉ st.secs) (F : Fr g L h m') (N : News g L h ((x, listOf #[] 0) :: (I, oI) :: (D, o') :: st.secs.map fun s => (ad s, lo s)))
    (lt : ∀ p ∈ (I, oI) :: (D, oD) :: st.secs.map (fun s => (ad s, lo s)), p.1 < x) (hI : ∀ p ∈ (D, oD) :: st.secs.map (fun s => (ad s, lo s)), p.1 ≠ I) (hd : o'.IsDictOf (PySem.strKind prog w) (stored (st.secs.map fun s => (s, .ref (ad s))) s0 (.ref x)))
    (m1 : m' "rows" = some (.ref q)) (m2 : m' "seen" = some (.ref D)) (m3 : m' "name" = some (.str s0 t)) : EndL g L (ReadJ prog w rs q (i + 1)) I oI s₁ { s₁ with heap := h, toks := tk } := by
  obtain ⟨here, dict, low, lists, offD, inj, mrows, mseen, tn, mname⟩ := J
  have hfl : fault st (.head s0) = none := by rw [fault, if_neg hn]
  have hmem : ∀ s ∈ st.secs, (ad s, lo s) ∈ st.secs.map fun s => (ad s, lo s) := fun s hs => List.mem_map.mpr ⟨s, hs, rfl⟩
  have hne : ∀ s ∈ st.secs, ¬ s = s0 := fun s hs z => hn (z ▸ hs)
  have hlt : ∀ s ∈ st.secs, @LT.lt Nat _ (ad s) x := fun s hs => lt _ (.tail _ (.tail _ (hmem s hs)))
  have e1 : ((st.secs ++ [s0]).map fun s => ((if s = s0 then x else ad s), if s = s0 then listOf #[] 0 else lo s)) = (st.secs.map fun s => (ad s, lo s)) ++ [(x, listOf #[] 0)] := by
    rw [List.map_append]
    congr 1
    · refine List.map_congr_left fun s hs => ?_
      simp only [if_neg (hne s hs)]
    · simp
  refine ⟨h, tk, m', (D, o') :: ((st.secs ++ [s0]).map fun s => ((if s = s0 then x else ad s), if s = s0 then listOf #[] 0 else lo s)), rfl, F, fun p hp => ?_, fun p hp => ?_, next st (.head s0), D, o', (fun s => if s = s0 then x else ad s), (fun s => if s = s0 then listOf #[] 0 else lo s), rfl, here.step hs hr ho hfl, ?_, low, ?_, ?_, ?_, m1, m2, t, m3⟩
  · rw [e1] at hp
    rcases List.mem_cons.mp hp with rfl | hp
    · exact N _ (.tail _ (.head _))
    rcases List.mem_cons.mp hp with rfl | hp
    · exact N _ (.tail _ (.tail _ (.head _)))
    rcases List.mem_append.mp hp with hp | hp
    · exact N _ (.tail _ (.tail _ (.tail _ hp)))
    · rw [List.mem_singleton.mp hp]; exact N _ (.head _)
  · rw [e1] at hp
    rcases List.mem_cons.mp hp with rfl | hp
    · exact hI (D, oD) (.head _)
    rcases List.mem_append.mp hp with hp | hp
    · exact hI p (.tail _ hp)
    · rw [List.mem_singleton.mp hp]; exact Nat.ne_of_gt (lt _ (.head _))
  · rw [stored_new hn] at hd
    have e2 : ((st.secs ++ [s0]).map fun s => (s, if s = s0 then Value.ref x else Value.ref (ad s))) = (st.secs ++ [s0]).map fun s => (s, Value.ref (if s = s0 then x else ad s)) := List.map_congr_left fun s _ => by
      by_cases z : s = s0
      · simp only [if_pos z]
      · simp only [if_neg z]
    rw [e2] at hd
    exact hd
  · intro s hs
    rcases List.mem_append.mp hs with hs | hs
    · simp only [if_neg (hne s hs)]
      exact lists s hs
    · have hs := List.mem_singleton.mp hs
      subst hs
      refine ⟨[], 0, by simp only [if_true], ?_⟩
      have e : optsIn (next st (.head s)) s = [] := by
        cases hq : optsIn (next st (.head s)) s with
        | nil => rfl
        | cons o r =>
          have hm : (s, o) ∈ st.opts := (mem_optsIn (st := next st (.head s))).mp (by rw [hq]; exact .head _)
          exact absurd (here.ok.os _ hm) hn
      rw [e]
      exact .nil
  · intro s hs
    rcases List.mem_append.mp hs with hs | hs
    · simp only [if_neg (hne s hs)]
      exact offD s hs
    · rw [List.mem_singleton.mp hs]
      simp only [if_true]
      exact Nat.ne_of_gt (lt _ (.tail _ (.head _)))
  · intro s hs s' hs'
    rcases List.mem_append.mp hs with hs | hs
    · rcases List.mem_append.mp hs' with hs' | hs'
      · simp only [if_neg (hne s hs), if_neg (hne s' hs')]
        exact inj s hs s' hs'
      · rw [List.mem_singleton.mp hs']
        simp only [if_neg (hne s hs), if_true]
        exact fun z => absurd z (Nat.ne_of_lt (hlt s hs))
    · rw [List.mem_singleton.mp hs]
      rcases List.mem_append.mp hs' with hs' | hs'
      · simp only [if_neg (hne s' hs'), if_true]
        exact fun z => absurd z.symm (Nat.ne_of_lt (hlt s' hs'))
      · rw [List.mem_singleton.mp hs']
        exact fun _ => rfl
/-- an option is set -/
theorem read_opt {o0 : Str} {t t1 : Tok} {lv : List Value} {ln : Nat} (J : ReadAt prog w rs i st q D oD ad lo m) (hs : Starts rs) (hr : rs[i]? = some (.opt o0)) (ho : (Row.opt o0).ok) (hn : (st.name, o0) ∉ st.opts) (hm : st.name ∈ st.secs) (hlo : lo st.name = listOf lv.toArray ln) (hld : DatAll [] lv ((optsIn st st.name).map Dat.str))
    (F : Fr g L h m') (N : News g L h ((I, oI) :: (D, oD) :: st.secs.map fun s => (ad s, if s = st.name then listOf (lv.toArray.push (.str o0 t1)) (ln + 1) else lo s)))
    (hI : ∀ p ∈ (D, oD) :: st.secs.map (fun s => (ad s, lo s)), p.1 ≠ I)
    (m1 : m' "rows" = some (.ref q)) (m2 : m' "seen" = some (.ref D)) (m3 : m' "name" = some (.str st.name t)) : EndL g L (ReadJ prog w rs q (i + 1)) I oI s₁ { s₁ with heap := h, toks := tk } := by
  obtain ⟨here, dict, low, lists, offD, inj, mrows, mseen, tn, mname⟩ := J
  have hfl : fault st (.opt o0) = none := by rw [fault, if_neg hn]
  refine ⟨h, tk, m', _, rfl, F, N, fun p hp => ?_, next st (.opt o0), D, oD, ad, _, rfl, here.step hs hr ho hfl, dict, low, ?_, offD, inj, m1, m2, t, m3⟩
  · rcases List.mem_cons.mp hp with rfl | hp
    · exact hI _ (.head _)
    · obtain ⟨s, hs, rfl⟩ := List.mem_map.mp hp
      exact hI (ad s, lo s) (.tail _ (List.mem_map.mpr ⟨s, hs, rfl⟩))
  · intro s hs
    have hs : s ∈ st.secs := hs
    by_cases z : s = st.name
    · subst z
      refine ⟨lv ++ [.str o0 t1], ln + 1, by simp only [if_true]; simp, ?_⟩
      have e : optsIn (next st (.opt o0)) st.name = optsIn st st.name ++ [o0] := by
        unfold optsIn
        show ((st.opts ++ [(st.name, o0)]).filter _).map _ = _
        rw [List.filter_append, List.map_append]
        congr 1
        simp
      rw [e, List.map_append]
      exact DatAll.append hld (.one (.str _ _))
    · obtain ⟨vs, n, e1, e2⟩ := lists s hs
      refine ⟨vs, n, by simp only [if_neg z]; exact e1, ?_⟩
      have e : optsIn (next st (.opt o0)) s = optsIn st s := by
        unfold optsIn
        show ((st.opts ++ [(st.name, o0)]).filter _).map _ = _
        rw [List.filter_append, List.map_append]
        have : List.filter (fun p : Str × Str => decide (p.1 = s)) [(st.name, o0)] = [] := by
          rw [List.filter_cons, if_neg (by simp; exact fun q => z q.symm)]; rfl
        rw [this]; simp
      rw [e]
      exact e2
end
end Mine

end
section -- R1rd
open PySem PySem.W PyProof.Rows Mine
set_option maxRecDepth 100000
set_option maxHeartbeats 1000000
set_option linter.unusedVariables false
namespace Mine

local macro_rules | `(tactic| k_all) => `(tactic| assumption)
/-- the rows of a list -/
inductive RowsAll (S : Heap) : List Value → List Row → Prop
  | nil : RowsAll S [] []
  | cons {a : Addr} {rv vs : List Value} {n : Nat} {r : Row} {rs : List Row} : S.get? a = some (listOf rv.toArray n) → DatAll [] rv r.dats → r.ok → RowsAll S vs rs → RowsAll S (.ref a :: vs) (r :: rs)
theorem RowsAll.len {S : Heap} : ∀ {vs : List Value} {rs : List Row}, RowsAll S vs rs → vs.length = rs.length
  | _, _, .nil => rfl
  | _, _, .cons _ _ _ x => congrArg (· + 1) x.len
theorem RowsAll.get {S : Heap} : ∀ {vs : List Value} {rs : List Row} {i : Nat} {r : Row}, RowsAll S vs rs → rs[i]? = some r → ∃ a rv n, vs[i]? = some (.ref a) ∧ S.get? a = some (listOf rv.toArray n) ∧ DatAll [] rv r.dats ∧ r.ok
  | _, _, _, _, .nil, h => by cases h
  | _, _, 0, _, .cons h1 h2 h3 _, h => by injection h with h; subst h; exact ⟨_, _, _, rfl, h1, h2, h3⟩
  | _, _, i + 1, _, .cons _ _ _ x, h => x.get (i := i) h
theorem RowsAll.oks {S : Heap} : ∀ {vs : List Value} {rs : List Row}, RowsAll S vs rs → ∀ r ∈ rs, r.ok
  | _, _, .nil, _, h => absurd h List.not_mem_nil
  | _, _, .cons _ _ h3 x, r, h => (List.mem_cons.mp h).elim (fun z => z ▸ h3) fun z => x.oks r z
theorem RowsAll.keeps {S S' : Heap} (k : ∀ b o, S.get? b = some o → S'.get? b = some o) : ∀ {vs : List Value} {rs : List Row}, RowsAll S vs rs → RowsAll S' vs rs
  | _, _, .nil => .nil
  | _, _, .cons h1 h2 h3 x => .cons (k _ _ h1) h2 h3 (x.keeps k)
theorem read_code {prog : Program} {w : World} {base : Heap} {l : List Env} {mg mb : Str → Option Value} {loose : List Str} {mean : ExcName → Option Value} {s : Shared} {R : Result → Shared → Prop} {A : Around} {rs : List Row} {vs : List Value} {q : Addr} {nq : Nat} (hR : RowsAll s.heap vs rs) (hq : s.heap.get? q = some (listOf vs.toArray nq)) (hlen : rs.length ≤ 22)
    (hst : base.StaysIn s.heap) (hff : s.heap.FunFrames base l) (X : (hd.heap_39 w.params).In base) (T : Top hd.view_39 loose mean mg mb base) (hA : A.frames = some l) (hdp : A.depth ≤ 800) (hun : A.units ≤ 8000) (hh : A.handled = none) (hst0 : Starts rs)
    (h0 : firstF st0 rs = none → ∀ h' tk', (∀ b o, s.heap.get? b = some o → h'.get? b = some o) → R (.ok (.ret .none)) { s with heap := h', toks := tk' })
    (h1 : ∀ p f, firstF st0 rs = some (p, f) → Out base l s f (p + 1) R) :
    codeAny (model prog w) A (.call (.ref 127) ⟨[.ref q], []⟩) R s := by
  have hvl := hR.len
  have hun2 : (A.units + 3) + 64 < cLine := by rw [show cLine = 9900 from rfl]; omega
  w_on
  refine' enter0 (binds := [("rows", .ref q)]) hA hst hff X T ?k6 ?k7 ?k8 ?k9 ?kB ?_ ?c2 ?c3 ?c4 ?c5
  (case k6 => k_dflt k_is); (case k7 => k_dflt k_is); (case k8 => exact Nat.lt_of_le_of_lt hdp (by decide)); (case k9 => exact BindsTo.of_eq rfl); (case c5 => decide); (case kB => exact locs rfl); (case c2 => exact rfl); (case c3 => exact rfl); (case c4 => exact rfl)
  intro L' h₁ F' N' B' X' T'
  k_fold
  have hLn : s.heap.get? L' = none := Heap.get?_none_of_le F'.above
  have hqL : s.heap.IsList q vs.toArray := ⟨_, hq, rfl, _, rfl⟩
  repeat' ((fail_if_success (with_reducible show wpAny _ _ (exec (Stmt.For _ _ _ _ _) _) _ _ _)); first | (with_reducible refine execs_one ?_; (try dsimp only)) | (walk1; (try dsimp only)) | (dsimp only; walk1) | (dsimp only [List.nil_append, List.cons_append]; walk1) | fail "no step")
  have hq1 : s.heap.get? q ≠ none := by rw [hq]; exact fun z => by cases z
  refine For_invV s.heap (by rfl) (by rfl) ?_
  repeat' ((fail_if_success (with_reducible show wpAny _ _ (pyIter _) _ _ _)); first | (with_reducible refine execs_one ?_; (try dsimp only)) | (((with_reducible show wpAny _ _ (call (Value.builtin "len") [Value.ref _]) _ _ _); k_dflt (refine len_q (n := rs.length) (by k_asm) hqL hvl (by omega) ?_)); intro _ _; (try dsimp only)) | (((with_reducible show wpAny _ _ (call (Value.type "range") [Value.int _ _]) _ _ _); k_dflt (refine range1_rows (by k_asm) (by k_asm) ?_)); intro hR' tkR tR uR vR hrR FR NR hkR; (try dsimp only)) | (walk1; (try dsimp only)) | (dsimp only; walk1) | (dsimp only [List.nil_append, List.cons_append]; walk1) | fail "no step")
  obtain ⟨hsm, hsz⟩ := range_small rs.length (by omega)
  rename_i D hX oD hlow hdict fs1 hi1 fi1 l1 hB hC FC NC tq kq
  clear fs1 hi1 fi1 l1 FC NC
  refine iter_rangeGL (ReadJ prog w rs q) hh hrR hsm hsz FR NR ?j0 ?turn ?done
  case j0 => exact ⟨st0, D, oD, fun _ => 0, fun _ => oD, rfl, ⟨.start rs, hdict, hlow, fun s h => absurd h List.not_mem_nil, fun s h => absurd h List.not_mem_nil, fun s h => absurd h List.not_mem_nil, rfl, rfl, _, rfl⟩⟩
  case turn =>
    rintro i t m₁ news₁ h3 tk3 I oI hi hIc hIoff ⟨st, D1, oD1, ad, lo, rfl, J⟩ F3 N3
    obtain ⟨r, hri⟩ : ∃ r, rs[i]? = some r := ⟨_, List.getElem?_eq_getElem hi⟩
    obtain ⟨a, rv, na, hva, har, hrd, hrok⟩ := hR.get hri
    obtain ⟨here, dict, low, lists, offD, inj, mrows, mseen, tn, mname⟩ := J
    have hal : s.heap.IsList a rv.toArray := ⟨_, har, rfl, _, rfl⟩
    generalize hls : st.secs.map (fun s => (ad s, lo s)) = ls at N3 hIoff
    clear FR NR hrR hkR hR
    have hlsD : ∀ p ∈ ls, @Ne Nat p.1 D1 := fun p hp => by
      rw [← hls] at hp
      obtain ⟨x, hx, rfl⟩ := List.mem_map.mp hp
      exact offD x hx
    have hID : @Ne Nat I D1 := Ne.symm (hIoff _ (.head _))
    have hlsD : ∀ p ∈ ls, @Ne Nat p.1 D1 := fun p hp => by
      rw [← hls] at hp
      obtain ⟨x, hx, rfl⟩ := List.mem_map.mp hp
      exact offD x hx
    have hID : @Ne Nat I D1 := Ne.symm (hIoff _ (.head _))
    have hlsD : ∀ p ∈ ls, @Ne Nat p.1 D1 := fun p hp => by
      rw [← hls] at hp
      obtain ⟨x, hx, rfl⟩ := List.mem_map.mp hp
      exact offD x hx
    have hID : @Ne Nat I D1 := Ne.symm (hIoff _ (.head _))
    have hlsD : ∀ p ∈ ls, @Ne Nat p.1 D1 := fun p hp => by
      rw [← hls] at hp
      obtain ⟨x, hx, rfl⟩ := List.mem_map.mp hp
      exact offD x hx
    have hID : @Ne Nat I D1 := Ne.symm (hIoff _ (.head _))
    have hlsD : ∀ p ∈ ls, @Ne Nat p.1 D1 := fun p hp => by
      rw [← hls] at hp
      obtain ⟨x, hx, rfl⟩ := List.mem_map.mp hp
      exact offD x hx
    have hID : @Ne Nat I D1 := Ne.symm (hIoff _ (.head _))
    cases r with
    | head s0 =>
      cases hrd with
      | cons d1 hrd => cases hrd with
        | cons d2 hrd => cases hrd with
          | cons d3 hrd =>
            cases hrd; cases d1; cases d2; cases d3
            by_cases hs1 : s0 ∈ st.secs
            · have hv1 : (valueAt (st.secs.map fun s => (s, Value.ref (ad s))) s0).isSome = true := by rw [valueAt_map, if_pos hs1]; rfl
              have hfl : fault st (.head s0) = some (.ds s0) := by rw [fault, if_pos hs1]
              repeat' ((fail_if_success (with_reducible show wpAny _ _ (exec (Stmt.Raise _ _ _) _) _ _ _)); first | (with_reducible refine execs_one ?_; (try dsimp only)) | (((first | (with_reducible show wpAny _ _ (eval (PySem.Expr.Name (PySem.Str.ofString "rows") _) _) _ _ _) | (with_reducible show wpAny _ _ (eval (PySem.Expr.Name (PySem.Str.ofString "seen") _) _) _ _ _) | (with_reducible show wpAny _ _ (eval (PySem.Expr.Name (PySem.Str.ofString "name") _) _) _ _ _)); k_dflt (refine ld (by k_asm) (by first | assumption | exact rfl) ?_)); (try dsimp only)) | (((with_reducible show wpAny _ _ (subscriptTail _ _ (Value.ref _) (Value.int _ _)) _ _ _); k_dflt (refine item_q (by k_asm) hqL hva (by omega) ?_)); (try dsimp only)) | (((with_reducible show wpAny _ _ (assign (PySem.Expr.Tuple _ _ _) _ (Value.ref _)) _ _ _); k_dflt (refine unpackL (by k_asm) (by k_asm) hh (hal.at fun o e => (by k_asm : Fr s.heap L' _ _).keep a o e) (by rfl) (by rfl) ?_)); intro hU' FU NU; (try dsimp only)) | (((with_reducible show wpAny _ _ (compareOp CmpOp.In (Value.str _ _) (Value.ref D1)) _ _ _); k_dflt (refine kda_in (knd := PySem.strKind _ _) (by k_asm) (by k_mem) dict low (strKind_is _ _ _ _) _ hv1 ?_)); (try dsimp only)) | (walk1; (try dsimp only)) | (dsimp only; walk1) | (dsimp only [List.nil_append, List.cons_append]; walk1) | fail "no step")
              refine exec_raise fun t' ht' => raise_none hh (ht' _ _ _ ?_)
              repeat' ((fail_if_success (with_reducible show wpAny _ _ (call (Value.ref _) _) _ _ _)); first | (with_reducible refine execs_one ?_; (try dsimp only)) | (((first | (with_reducible show wpAny _ _ (eval (PySem.Expr.Name (PySem.Str.ofString "rows") _) _) _ _ _) | (with_reducible show wpAny _ _ (eval (PySem.Expr.Name (PySem.Str.ofString "seen") _) _) _ _ _) | (with_reducible show wpAny _ _ (eval (PySem.Expr.Name (PySem.Str.ofString "name") _) _) _ _ _)); k_dflt (refine ld (by k_asm) (by first | assumption | exact rfl) ?_)); (try dsimp only)) | (((with_reducible show wpAny _ _ (subscriptTail _ _ (Value.ref _) (Value.int _ _)) _ _ _); k_dflt (refine item_q (by k_asm) hqL hva (by omega) ?_)); (try dsimp only)) | (((with_reducible show wpAny _ _ (assign (PySem.Expr.Tuple _ _ _) _ (Value.ref _)) _ _ _); k_dflt (refine unpackL (by k_asm) (by k_asm) hh (hal.at fun o e => (by k_asm : Fr s.heap L' _ _).keep a o e) (by rfl) (by rfl) ?_)); intro hU' FU NU; (try dsimp only)) | (((with_reducible show wpAny _ _ (compareOp CmpOp.In (Value.str _ _) (Value.ref D1)) _ _ _); k_dflt (refine kda_in (knd := PySem.strKind _ _) (by k_asm) (by k_mem) dict low (strKind_is _ _ _ _) _ hv1 ?_)); (try dsimp only)) | (walk1; (try dsimp only)) | (dsimp only; walk1) | (dsimp only [List.nil_append, List.cons_append]; walk1) | fail "no step")
              refine ds_K (n := i + 1) (by push_cast; rfl) hrok (by omega) (by omega) B' (by k_asm) (by k_asm) (Around.frames_deeper hA) rfl rfl X T (by rw [depth_deeper]; omega) ?_
              intro h5 e5 d5 t5 tk5 k1 k2 k3 k4 k5
              exact read_end (s := s) B' (by k_asm) hLn X (by k_asm : Fr s.heap L' _ _).keep k1 k2 k3 k4 k5 (h1 i _ (here.fault hri hfl)) rfl
            · have hv1 : (valueAt (st.secs.map fun s => (s, Value.ref (ad s))) s0).isSome = false := by rw [valueAt_map, if_neg hs1]; rfl
              have hfl : fault st (.head s0) = none := by rw [fault, if_neg hs1]
              have hsl := here.ok.sl
              have hsz1 : (st.secs.map fun s => (s, Value.ref (ad s))).length ≤ sizeLine := by rw [List.length_map, sizeLine_eq]; omega
              repeat' (first | (with_reducible refine execs_one ?_; (try dsimp only)) | (((first | (with_reducible show wpAny _ _ (eval (PySem.Expr.Name (PySem.Str.ofString "rows") _) _) _ _ _) | (with_reducible show wpAny _ _ (eval (PySem.Expr.Name (PySem.Str.ofString "seen") _) _) _ _ _) | (with_reducible show wpAny _ _ (eval (PySem.Expr.Name (PySem.Str.ofString "name") _) _) _ _ _)); k_dflt (refine ld (by k_asm) (by first | assumption | exact rfl) ?_)); (try dsimp only)) | (((with_reducible show wpAny _ _ (subscriptTail _ _ (Value.ref _) (Value.int _ _)) _ _ _); k_dflt (refine item_q (by k_asm) hqL hva (by omega) ?_)); (try dsimp only)) | (((with_reducible show wpAny _ _ (assign (PySem.Expr.Tuple _ _ _) _ (Value.ref _)) _ _ _); k_dflt (refine unpackL (by k_asm) (by k_asm) hh (hal.at fun o e => (by k_asm : Fr s.heap L' _ _).keep a o e) (by rfl) (by rfl) ?_)); intro hU' FU NU; (try dsimp only)) | (((with_reducible show wpAny _ _ (compareOp CmpOp.In (Value.str _ _) (Value.ref D1)) _ _ _); k_dflt (refine kda_in (knd := PySem.strKind _ _) (by k_asm) (by k_mem) dict low (strKind_is _ _ _ _) _ hv1 ?_)); (try dsimp only)) | (((with_reducible show wpAny _ _ (newList _) _ _ _); k_dflt (refine newList_K (by k_asm) (by k_asm) ?_ (by rw [sizeLine_eq]; exact Nat.le_of_ble_eq_true rfl))); intro x' h' F' N' ltx; (try dsimp only)) | (((with_reducible show wpAny _ _ (setItem (Value.ref D1) (Value.str _ _) _) _ _ _); k_dflt (refine set_new (by k_asm) (by k_asm) ltx hID hlsD dict hsz1 ?_)); intro h' o' F' N' hd'; (try dsimp only)) | (walk1; (try dsimp only)) | (dsimp only; walk1) | (dsimp only [List.nil_append, List.cons_append]; walk1) | fail "no step")
              (rename Fr s.heap _ _ _ => F9); (rename News s.heap _ _ _ => N9)
              subst hls
              exact read_head ⟨here, dict, low, lists, offD, inj, mrows, mseen, tn, mname⟩ hst0 hri hrok hs1 F9 N9 ltx hIoff hd' mrows mseen rfl
    | opt o0 =>
      cases hrd with
      | cons d1 hrd => cases hrd with
        | cons d2 hrd => cases hrd with
          | cons d3 hrd =>
            cases hrd; cases d1; cases d2; cases d3
            have hk1 := ok_opt o0 hrok
            have hi0 : 0 < i := by
              rcases Nat.eq_zero_or_pos i with z | z
              · obtain ⟨s, r, rfl⟩ := hst0; rw [z] at hri; cases hri
              · exact z
            have hs1 := here.ok.nm hi0
            have hv2 : valueAt (st.secs.map fun s => (s, Value.ref (ad s))) st.name = some (.ref (ad st.name)) := by rw [valueAt_map, if_pos hs1]
            obtain ⟨lv, ln, hlo, hld⟩ := lists st.name hs1
            have hmem : (ad st.name, listOf lv.toArray ln) ∈ ls := by rw [← hls, ← hlo]; exact List.mem_map.mpr ⟨st.name, hs1, rfl⟩
            by_cases ho1 : (st.name, o0) ∈ st.opts
            · have ho : decide (o0 ∈ optsIn st st.name) = true := decide_eq_true (mem_optsIn.mpr ho1)
              have hfl : fault st (.opt o0) = some (.dop st.name o0) := by rw [fault, if_pos ho1]
              repeat' ((fail_if_success (with_reducible show wpAny _ _ (exec (Stmt.Raise _ _ _) _) _ _ _)); first | (with_reducible refine execs_one ?_; (try dsimp only)) | (((first | (with_reducible show wpAny _ _ (eval (PySem.Expr.Name (PySem.Str.ofString "rows") _) _) _ _ _) | (with_reducible show wpAny _ _ (eval (PySem.Expr.Name (PySem.Str.ofString "seen") _) _) _ _ _) | (with_reducible show wpAny _ _ (eval (PySem.Expr.Name (PySem.Str.ofString "name") _) _) _ _ _)); k_dflt (refine ld (by k_asm) (by first | assumption | exact rfl) ?_)); (try dsimp only)) | (((with_reducible show wpAny _ _ (subscriptTail _ _ (Value.ref _) (Value.int _ _)) _ _ _); k_dflt (refine item_q (by k_asm) hqL hva (by omega) ?_)); (try dsimp only)) | (((with_reducible show wpAny _ _ (assign (PySem.Expr.Tuple _ _ _) _ (Value.ref _)) _ _ _); k_dflt (refine unpackL (by k_asm) (by k_asm) hh (hal.at fun o e => (by k_asm : Fr s.heap L' _ _).keep a o e) (by rfl) (by rfl) ?_)); intro hU' FU NU; (try dsimp only)) | (((with_reducible show wpAny _ _ (subscriptTail _ _ (Value.ref D1) (Value.str _ _)) _ _ _); k_dflt (refine kda_item (knd := PySem.strKind _ _) (by k_asm) (by k_mem) dict (strKind_is _ _ _ _) hv2 ?_)); (try dsimp only)) | (((with_reducible show wpAny _ _ (compareOp CmpOp.In (Value.str _ _) (Value.ref (ad _))) _ _ _); k_dflt (refine in_lst (by k_asm) (.tail _ (.tail _ hmem)) hld (here.ok.okIn _) hk1 hun2 ho ?_)); (try dsimp only)) | (walk1; (try dsimp only)) | (dsimp only; walk1) | (dsimp only [List.nil_append, List.cons_append]; walk1) | fail "no step")
              refine exec_raise fun t' ht' => raise_none hh (ht' _ _ _ ?_)
              repeat' ((fail_if_success (with_reducible show wpAny _ _ (call (Value.ref _) _) _ _ _)); first | (with_reducible refine execs_one ?_; (try dsimp only)) | (((first | (with_reducible show wpAny _ _ (eval (PySem.Expr.Name (PySem.Str.ofString "rows") _) _) _ _ _) | (with_reducible show wpAny _ _ (eval (PySem.Expr.Name (PySem.Str.ofString "seen") _) _) _ _ _) | (with_reducible show wpAny _ _ (eval (PySem.Expr.Name (PySem.Str.ofString "name") _) _) _ _ _)); k_dflt (refine ld (by k_asm) (by first | assumption | exact rfl) ?_)); (try dsimp only)) | (((with_reducible show wpAny _ _ (subscriptTail _ _ (Value.ref _) (Value.int _ _)) _ _ _); k_dflt (refine item_q (by k_asm) hqL hva (by omega) ?_)); (try dsimp only)) | (((with_reducible show wpAny _ _ (assign (PySem.Expr.Tuple _ _ _) _ (Value.ref _)) _ _ _); k_dflt (refine unpackL (by k_asm) (by k_asm) hh (hal.at fun o e => (by k_asm : Fr s.heap L' _ _).keep a o e) (by rfl) (by rfl) ?_)); intro hU' FU NU; (try dsimp only)) | (((with_reducible show wpAny _ _ (subscriptTail _ _ (Value.ref D1) (Value.str _ _)) _ _ _); k_dflt (refine kda_item (knd := PySem.strKind _ _) (by k_asm) (by k_mem) dict (strKind_is _ _ _ _) hv2 ?_)); (try dsimp only)) | (((with_reducible show wpAny _ _ (compareOp CmpOp.In (Value.str _ _) (Value.ref (ad _))) _ _ _); k_dflt (refine in_lst (by k_asm) (.tail _ (.tail _ hmem)) hld (here.ok.okIn _) hk1 hun2 ho ?_)); (try dsimp only)) | (walk1; (try dsimp only)) | (dsimp only; walk1) | (dsimp only [List.nil_append, List.cons_append]; walk1) | fail "no step")
              refine do_K (n := i + 1) (by push_cast; rfl) (here.ok.sx _ hs1) hrok (by omega) (by omega) B' (by k_asm) (by k_asm) (Around.frames_deeper hA) rfl rfl X T (by rw [depth_deeper]; omega) ?_
              intro h5 e5 d5 t5 tk5 k1 k2 k3 k4 k5
              exact read_end (s := s) B' (by k_asm) hLn X (by k_asm : Fr s.heap L' _ _).keep k1 k2 k3 k4 k5 (h1 i _ (here.fault hri hfl)) rfl
            · have ho : decide (o0 ∈ optsIn st st.name) = false := decide_eq_false fun z => ho1 (mem_optsIn.mp z)
              have hfl : fault st (.opt o0) = none := by rw [fault, if_neg ho1]
              have hlvl : lv.length ≤ 100 := by
                have z1 := hld.length
                rw [List.length_map] at z1
                have z2 := here.ok.ol
                have z3 : (optsIn st st.name).length ≤ st.opts.length := by unfold optsIn; rw [List.length_map]; exact List.length_filter_le _ _
                omega
              have hupd : ∀ o', Upd (ad st.name) (listOf lv.toArray ln) o' ls (st.secs.map fun s => (ad s, if s = st.name then o' else lo s)) := fun o' => by rw [← hls, ← hlo]; exact upd_map here.ok.nd hs1 (fun s hs => inj s hs _ hs1)
              have hID2 : @Ne Nat I (ad st.name) := Ne.symm (hIoff _ (.tail _ hmem))
              have hID3 : @Ne Nat D1 (ad st.name) := Ne.symm (offD _ hs1)
              repeat' (first | (with_reducible refine execs_one ?_; (try dsimp only)) | (((first | (with_reducible show wpAny _ _ (eval (PySem.Expr.Name (PySem.Str.ofString "rows") _) _) _ _ _) | (with_reducible show wpAny _ _ (eval (PySem.Expr.Name (PySem.Str.ofString "seen") _) _) _ _ _) | (with_reducible show wpAny _ _ (eval (PySem.Expr.Name (PySem.Str.ofString "name") _) _) _ _ _)); k_dflt (refine ld (by k_asm) (by first | assumption | exact rfl) ?_)); (try dsimp only)) | (((with_reducible show wpAny _ _ (subscriptTail _ _ (Value.ref _) (Value.int _ _)) _ _ _); k_dflt (refine item_q (by k_asm) hqL hva (by omega) ?_)); (try dsimp only)) | (((with_reducible show wpAny _ _ (assign (PySem.Expr.Tuple _ _ _) _ (Value.ref _)) _ _ _); k_dflt (refine unpackL (by k_asm) (by k_asm) hh (hal.at fun o e => (by k_asm : Fr s.heap L' _ _).keep a o e) (by rfl) (by rfl) ?_)); intro hU' FU NU; (try dsimp only)) | (((with_reducible show wpAny _ _ (subscriptTail _ _ (Value.ref D1) (Value.str _ _)) _ _ _); k_dflt (refine kda_item (knd := PySem.strKind _ _) (by k_asm) (by k_mem) dict (strKind_is _ _ _ _) hv2 ?_)); (try dsimp only)) | (((with_reducible show wpAny _ _ (compareOp CmpOp.In (Value.str _ _) (Value.ref (ad _))) _ _ _); k_dflt (refine in_lst (by k_asm) (.tail _ (.tail _ hmem)) hld (here.ok.okIn _) hk1 hun2 ho ?_)); (try dsimp only)) | (((with_reducible show wpAny _ _ (getMethod (Value.ref (ad _)) _ _) _ _ _); k_dflt (refine listMethod_K (by k_asm) (.tail _ (.tail _ hmem)) PySem.F.slot_list_append PySem.F.type_list_append ?_)); (try dsimp only)) | ((with_reducible show wpAny _ _ (call (Value.builtin "list.append") _) _ _ _); (try dsimp only [List.nil_append, List.cons_append]); (with_reducible show wpAny _ _ (call (Value.builtin "list.append") [_, _]) _ _ _); k_dflt (refine append_K (by k_asm) (by k_asm) (.tail hID2 (.tail hID3 (hupd _))) ?_ (by rw [List.size_toArray, sizeLine_eq]; omega)); intro h' F' N'; (try dsimp only)) | (walk1; (try dsimp only)) | (dsimp only; walk1) | (dsimp only [List.nil_append, List.cons_append]; walk1) | fail "no step")
              (rename Fr s.heap _ _ _ => F9); (rename News s.heap _ _ _ => N9)
              subst hls
              exact read_opt ⟨here, dict, low, lists, offD, inj, mrows, mseen, tn, mname⟩ hst0 hri hrok ho1 hs1 hlo hld F9 N9 hIoff mrows mseen mname
    | look o0 s0 =>
      cases hrd with
      | cons d1 hrd => cases hrd with
        | cons d2 hrd => cases hrd with
          | cons d3 hrd =>
            cases hrd; cases d1; cases d2; cases d3
            have hk1 := ok_opt o0 hrok.1
            by_cases hs1 : s0 ∈ st.secs
            · have hv1 : (!(valueAt (st.secs.map fun s => (s, Value.ref (ad s))) s0).isSome) = false := by rw [valueAt_map, if_pos hs1]; rfl
              have hv2 : valueAt (st.secs.map fun s => (s, Value.ref (ad s))) s0 = some (.ref (ad s0)) := by rw [valueAt_map, if_pos hs1]
              obtain ⟨lv, ln, hlo, hld⟩ := lists s0 hs1
              have hmem : (ad s0, listOf lv.toArray ln) ∈ ls := by rw [← hls, ← hlo]; exact List.mem_map.mpr ⟨s0, hs1, rfl⟩
              by_cases ho1 : (s0, o0) ∈ st.opts
              · have ho : (!decide (o0 ∈ optsIn st s0)) = false := by rw [decide_eq_true (mem_optsIn.mpr ho1)]; rfl
                have hfl : fault st (.look o0 s0) = none := by rw [fault, if_pos hs1, if_pos ho1]
                repeat' (first | (with_reducible refine execs_one ?_; (try dsimp only)) | (((first | (with_reducible show wpAny _ _ (eval (PySem.Expr.Name (PySem.Str.ofString "rows") _) _) _ _ _) | (with_reducible show wpAny _ _ (eval (PySem.Expr.Name (PySem.Str.ofString "seen") _) _) _ _ _) | (with_reducible show wpAny _ _ (eval (PySem.Expr.Name (PySem.Str.ofString "name") _) _) _ _ _)); k_dflt (refine ld (by k_asm) (by first | assumption | exact rfl) ?_)); (try dsimp only)) | (((with_reducible show wpAny _ _ (subscriptTail _ _ (Value.ref _) (Value.int _ _)) _ _ _); k_dflt (refine item_q (by k_asm) hqL hva (by omega) ?_)); (try dsimp only)) | (((with_reducible show wpAny _ _ (assign (PySem.Expr.Tuple _ _ _) _ (Value.ref _)) _ _ _); k_dflt (refine unpackL (by k_asm) (by k_asm) hh (hal.at fun o e => (by k_asm : Fr s.heap L' _ _).keep a o e) (by rfl) (by rfl) ?_)); intro hU' FU NU; (try dsimp only)) | (((with_reducible show wpAny _ _ (compareOp CmpOp.NotIn (Value.str _ _) (Value.ref D1)) _ _ _); k_dflt (refine nin_dict (by k_asm) (by k_mem) dict low hv1 ?_)); (try dsimp only)) | (((with_reducible show wpAny _ _ (subscriptTail _ _ (Value.ref D1) (Value.str _ _)) _ _ _); k_dflt (refine kda_item (knd := PySem.strKind _ _) (by k_asm) (by k_mem) dict (strKind_is _ _ _ _) hv2 ?_)); (try dsimp only)) | (((with_reducible show wpAny _ _ (compareOp CmpOp.NotIn (Value.str _ _) (Value.ref (ad _))) _ _ _); k_dflt (refine notin_lst (by k_asm) (.tail _ (.tail _ hmem)) hld (here.ok.okIn _) hk1 hun2 ho ?_)); (try dsimp only)) | (walk1; (try dsimp only)) | (dsimp only; walk1) | (dsimp only [List.nil_append, List.cons_append]; walk1) | fail "no step")
                (rename Fr s.heap _ _ _ => F9); (rename News s.heap _ _ _ => N9)
                exact ⟨_, _, _, (D1, oD1) :: ls, rfl, F9, N9, hIoff, st, D1, oD1, ad, lo, by rw [hls], here.step hst0 hri hrok hfl, dict, low, lists, offD, inj, mrows, mseen, tn, mname⟩
              · have ho : (!decide (o0 ∈ optsIn st s0)) = true := by rw [decide_eq_false fun z => ho1 (mem_optsIn.mp z)]; rfl
                have hfl : fault st (.look o0 s0) = some (.no o0 s0) := by rw [fault, if_pos hs1, if_neg ho1]
                repeat' ((fail_if_success (with_reducible show wpAny _ _ (exec (Stmt.Raise _ _ _) _) _ _ _)); first | (with_reducible refine execs_one ?_; (try dsimp only)) | (((first | (with_reducible show wpAny _ _ (eval (PySem.Expr.Name (PySem.Str.ofString "rows") _) _) _ _ _) | (with_reducible show wpAny _ _ (eval (PySem.Expr.Name (PySem.Str.ofString "seen") _) _) _ _ _) | (with_reducible show wpAny _ _ (eval (PySem.Expr.Name (PySem.Str.ofString "name") _) _) _ _ _)); k_dflt (refine ld (by k_asm) (by first | assumption | exact rfl) ?_)); (try dsimp only)) | (((with_reducible show wpAny _ _ (subscriptTail _ _ (Value.ref _) (Value.int _ _)) _ _ _); k_dflt (refine item_q (by k_asm) hqL hva (by omega) ?_)); (try dsimp only)) | (((with_reducible show wpAny _ _ (assign (PySem.Expr.Tuple _ _ _) _ (Value.ref _)) _ _ _); k_dflt (refine unpackL (by k_asm) (by k_asm) hh (hal.at fun o e => (by k_asm : Fr s.heap L' _ _).keep a o e) (by rfl) (by rfl) ?_)); intro hU' FU NU; (try dsimp only)) | (((with_reducible show wpAny _ _ (compareOp CmpOp.NotIn (Value.str _ _) (Value.ref D1)) _ _ _); k_dflt (refine nin_dict (by k_asm) (by k_mem) dict low hv1 ?_)); (try dsimp only)) | (((with_reducible show wpAny _ _ (subscriptTail _ _ (Value.ref D1) (Value.str _ _)) _ _ _); k_dflt (refine kda_item (knd := PySem.strKind _ _) (by k_asm) (by k_mem) dict (strKind_is _ _ _ _) hv2 ?_)); (try dsimp only)) | (((with_reducible show wpAny _ _ (compareOp CmpOp.NotIn (Value.str _ _) (Value.ref (ad _))) _ _ _); k_dflt (refine notin_lst (by k_asm) (.tail _ (.tail _ hmem)) hld (here.ok.okIn _) hk1 hun2 ho ?_)); (try dsimp only)) | (walk1; (try dsimp only)) | (dsimp only; walk1) | (dsimp only [List.nil_append, List.cons_append]; walk1) | fail "no step")
                refine exec_raise fun t' ht' => raise_none hh (ht' _ _ _ ?_)
                repeat' ((fail_if_success (with_reducible show wpAny _ _ (call (Value.ref _) _) _ _ _)); first | (with_reducible refine execs_one ?_; (try dsimp only)) | (((first | (with_reducible show wpAny _ _ (eval (PySem.Expr.Name (PySem.Str.ofString "rows") _) _) _ _ _) | (with_reducible show wpAny _ _ (eval (PySem.Expr.Name (PySem.Str.ofString "seen") _) _) _ _ _) | (with_reducible show wpAny _ _ (eval (PySem.Expr.Name (PySem.Str.ofString "name") _) _) _ _ _)); k_dflt (refine ld (by k_asm) (by first | assumption | exact rfl) ?_)); (try dsimp only)) | (((with_reducible show wpAny _ _ (subscriptTail _ _ (Value.ref _) (Value.int _ _)) _ _ _); k_dflt (refine item_q (by k_asm) hqL hva (by omega) ?_)); (try dsimp only)) | (((with_reducible show wpAny _ _ (assign (PySem.Expr.Tuple _ _ _) _ (Value.ref _)) _ _ _); k_dflt (refine unpackL (by k_asm) (by k_asm) hh (hal.at fun o e => (by k_asm : Fr s.heap L' _ _).keep a o e) (by rfl) (by rfl) ?_)); intro hU' FU NU; (try dsimp only)) | (((with_reducible show wpAny _ _ (compareOp CmpOp.NotIn (Value.str _ _) (Value.ref D1)) _ _ _); k_dflt (refine nin_dict (by k_asm) (by k_mem) dict low hv1 ?_)); (try dsimp only)) | (((with_reducible show wpAny _ _ (subscriptTail _ _ (Value.ref D1) (Value.str _ _)) _ _ _); k_dflt (refine kda_item (knd := PySem.strKind _ _) (by k_asm) (by k_mem) dict (strKind_is _ _ _ _) hv2 ?_)); (try dsimp only)) | (((with_reducible show wpAny _ _ (compareOp CmpOp.NotIn (Value.str _ _) (Value.ref (ad _))) _ _ _); k_dflt (refine notin_lst (by k_asm) (.tail _ (.tail _ hmem)) hld (here.ok.okIn _) hk1 hun2 ho ?_)); (try dsimp only)) | (walk1; (try dsimp only)) | (dsimp only; walk1) | (dsimp only [List.nil_append, List.cons_append]; walk1) | fail "no step")
                refine no_K (i + 1) hrok.2 hrok.1 B' (by k_asm) (by k_asm) (Around.frames_deeper hA) rfl rfl X T (by rw [depth_deeper]; omega) ?_
                intro h5 e5 d5 t5 tk5 k1 k2 k3 k4 k5
                exact read_end (s := s) B' (by k_asm) hLn X (by k_asm : Fr s.heap L' _ _).keep k1 k2 k3 k4 k5 (h1 i _ (here.fault hri hfl)) rfl
            · have hv1 : (!(valueAt (st.secs.map fun s => (s, Value.ref (ad s))) s0).isSome) = true := by rw [valueAt_map, if_neg hs1]; rfl
              have hfl : fault st (.look o0 s0) = some (.ns s0) := by rw [fault, if_neg hs1]
              repeat' ((fail_if_success (with_reducible show wpAny _ _ (exec (Stmt.Raise _ _ _) _) _ _ _)); first | (with_reducible refine execs_one ?_; (try dsimp only)) | (((first | (with_reducible show wpAny _ _ (eval (PySem.Expr.Name (PySem.Str.ofString "rows") _) _) _ _ _) | (with_reducible show wpAny _ _ (eval (PySem.Expr.Name (PySem.Str.ofString "seen") _) _) _ _ _) | (with_reducible show wpAny _ _ (eval (PySem.Expr.Name (PySem.Str.ofString "name") _) _) _ _ _)); k_dflt (refine ld (by k_asm) (by first | assumption | exact rfl) ?_)); (try dsimp only)) | (((with_reducible show wpAny _ _ (subscriptTail _ _ (Value.ref _) (Value.int _ _)) _ _ _); k_dflt (refine item_q (by k_asm) hqL hva (by omega) ?_)); (try dsimp only)) | (((with_reducible show wpAny _ _ (assign (PySem.Expr.Tuple _ _ _) _ (Value.ref _)) _ _ _); k_dflt (refine unpackL (by k_asm) (by k_asm) hh (hal.at fun o e => (by k_asm : Fr s.heap L' _ _).keep a o e) (by rfl) (by rfl) ?_)); intro hU' FU NU; (try dsimp only)) | (((with_reducible show wpAny _ _ (compareOp CmpOp.NotIn (Value.str _ _) (Value.ref D1)) _ _ _); k_dflt (refine nin_dict (by k_asm) (by k_mem) dict low hv1 ?_)); (try dsimp only)) | (walk1; (try dsimp only)) | (dsimp only; walk1) | (dsimp only [List.nil_append, List.cons_append]; walk1) | fail "no step")
              refine exec_raise fun t' ht' => raise_none hh (ht' _ _ _ ?_)
              repeat' ((fail_if_success (with_reducible show wpAny _ _ (call (Value.ref _) _) _ _ _)); first | (with_reducible refine execs_one ?_; (try dsimp only)) | (((first | (with_reducible show wpAny _ _ (eval (PySem.Expr.Name (PySem.Str.ofString "rows") _) _) _ _ _) | (with_reducible show wpAny _ _ (eval (PySem.Expr.Name (PySem.Str.ofString "seen") _) _) _ _ _) | (with_reducible show wpAny _ _ (eval (PySem.Expr.Name (PySem.Str.ofString "name") _) _) _ _ _)); k_dflt (refine ld (by k_asm) (by first | assumption | exact rfl) ?_)); (try dsimp only)) | (((with_reducible show wpAny _ _ (subscriptTail _ _ (Value.ref _) (Value.int _ _)) _ _ _); k_dflt (refine item_q (by k_asm) hqL hva (by omega) ?_)); (try dsimp only)) | (((with_reducible show wpAny _ _ (assign (PySem.Expr.Tuple _ _ _) _ (Value.ref _)) _ _ _); k_dflt (refine unpackL (by k_asm) (by k_asm) hh (hal.at fun o e => (by k_asm : Fr s.heap L' _ _).keep a o e) (by rfl) (by rfl) ?_)); intro hU' FU NU; (try dsimp only)) | (((with_reducible show wpAny _ _ (compareOp CmpOp.NotIn (Value.str _ _) (Value.ref D1)) _ _ _); k_dflt (refine nin_dict (by k_asm) (by k_mem) dict low hv1 ?_)); (try dsimp only)) | (walk1; (try dsimp only)) | (dsimp only; walk1) | (dsimp only [List.nil_append, List.cons_append]; walk1) | fail "no step")
              refine ns_K (i + 1) hrok.2 B' (by k_asm) (by k_asm) (Around.frames_deeper hA) rfl rfl X T (by rw [depth_deeper]; omega) ?_
              intro h5 e5 d5 t5 tk5 k1 k2 k3 k4 k5
              exact read_end (s := s) B' (by k_asm) hLn X (by k_asm : Fr s.heap L' _ _).keep k1 k2 k3 k4 k5 (h1 i _ (here.fault hri hfl)) rfl
  case done =>
    rintro m₁ news₁ h3 tk3 ⟨st, D1, oD1, ad, lo, rfl, J⟩ F3 N3
    k_unfold
    exact h0 J.here.done h3 tk3 F3.keep
end Mine

end
section -- R1h
set_option maxRecDepth 100000
set_option maxHeartbeats 1000000
set_option linter.unusedVariables false
namespace Mine
open PySem PySem.W PySem.Calls PyProof.Rows PySem.Builtin
section
variable {prog : Program} {w : World} {A : Around} {E : Value → Shared → Prop} {s : Shared} {base : Heap} {K : Frag} {outer : List Env} {env : Env} {L e C : Addr} {ar tb ctx c : Value} {d : Option Addr} {m : Str → Option Value} {x n : Str} {np pos : Pos} {Q : Flow → Shared → Prop} {hs rest : List ExceptHandler}
/-- an error comes to a try -/
theorem try_noted (hfL : env.frame = some L) (hfr : A.frames = some (env :: outer)) (hl : s.heap.FunFrames base (env :: outer)) (he : s.heap.get? e = some (excObj C d ar tb ctx)) (hF : Fly base s.heap e tb .none) (hst : base.StaysIn s.heap) (hen : base.get? e = none)
    (hns : s.heap.Ns L m) (hLe : L ≠ e)
    (h : ∀ h' tb', h'.get? e = some (excObj C d ar tb' ctx) → Fly base h' e tb' .none → Kept ((env :: outer).filterMap (·.frame)) [e] s.heap h' → base.StaysIn h' → h'.Ns L m → wpAny (model prog w) A (handleBy (.ref e) env hs) Q E { s with heap := h' }) :
    wpAny (model prog w) A (noteFrame (.ref e) env) (fun _ s₂ => wpAny (model prog w) A (setFlight (.ref e) none) (fun _ s₃ => wpAny (model prog w) A (handleBy (.ref e) env hs) Q E s₃) E s₂) E s := by
  refine note_next hfr hl hfL he hF hst hen fun h₁ tb₁ a1 a2 a3 a4 => ?_
  refine flight_set (s := { s with heap := h₁ }) (fr := none) a1 a2 a4 ((env :: outer).filterMap (·.frame)) fun h₂ b1 b2 b3 b4 => ?_
  have k2 := a3.trans b3
  exact h h₂ tb₁ b1 b2 k2 b4 (k2.ns hns (by simp [hLe]))
/-- a clause does not take it -/
theorem hb_miss {nm : Option Str} {body : List Stmt} (he : s.heap.get? e = some (excObj C d ar tb ctx)) (F : Fr base L s.heap m) (X : K.In base)
    (hname : ∀ {A : Around} {E : Value → Shared → Prop} {Q : Value → Shared → Prop} {s : Shared}, Fr base L s.heap m → Q c s → wpAny (model prog w) A (eval (.Name x np) env) Q E s) (hm : exmOne K (.ref C) c = some false)
    (h : wpAny (model prog w) A (handleBy (.ref e) env rest) Q E s) : wpAny (model prog w) A (handleBy (.ref e) env (.ExceptHandler (some (.Name x np)) nm body pos :: rest)) Q E s := by
  refine wpAny_handleBy_cons (codeAny_handlers_test (hname F ?_)) (by intro q; cases q)
  have t1 : Looks (model prog w) s.heap (typeOf (.ref e)) (.ref C) := (Looks.ld he).andThen .now
  refine (exm_one (X.keeps F.keep) t1 hm).here ?_
  exact h
/-- a clause takes it -/
theorem hb_hit {b₀ : Stmt} {suite : List Stmt} (hL : env.locals = L) (he : s.heap.get? e = some (excObj C d ar tb ctx)) (hF : Fly base s.heap e tb .none) (F : Fr base L s.heap m) (X : K.In base)
    (hname : ∀ {A : Around} {E : Value → Shared → Prop} {Q : Value → Shared → Prop} {s : Shared}, Fr base L s.heap m → Q c s → wpAny (model prog w) A (eval (.Name x np) env) Q E s) (hm : exmOne K (.ref C) c = some true) (hLe : L ≠ e) (fs : List Addr)
    (h : ∀ h', h'.get? e = some (excObj C d ar tb ctx) → Kept fs [e, L] s.heap h' → base.StaysIn h' → h'.Ns L (fun y => if y = n then some (.ref e) else m y) →
      wpAny (model prog w) (A.mark (some (.ref e))) (execs (b₀ :: suite) env)
        (fun f s₄ => wpAny (model prog w) A (do bindName env n .none; unbindBehindTheSuite env n pos) (fun _ s₅ => Q f s₅) E s₄)
        (AsSuiteRaised (model prog w) (A.mark (some (.ref e))) env n pos (notedBy (model prog w) (A.mark (some (.ref e))) env (cameBackBy (model prog w) A env E))) { s with heap := h', toks := s.toks + 1 })
    (hk : env.scope.kind = .function) (hlo : env.kindOf n = some .local) :
    wpAny (model prog w) A (handleBy (.ref e) env (.ExceptHandler (some (.Name x np)) (some n) (b₀ :: suite) pos :: rest)) Q E s := by
  subst hL
  refine wpAny_handleBy_cons (codeAny_handlers_test (hname F ?_)) (by intro q; cases q)
  have t1 : Looks (model prog w) s.heap (typeOf (.ref e)) (.ref C) := (Looks.ld he).andThen .now
  refine (exm_one (X.keeps F.keep) t1 hm).here ?_
  refine codeAny_handlers_suite_as ?_
  refine flight_set (fr := none) he hF F.keep fs fun h₃ c1 c2 c3 c4 => ?_
  have ns3 := c3.ns F.ns (by simp [hLe])
  refine wpAny_storeName_local hlo ns3 (fun h₄ hn₄ hs₄ => ?_) (by rw [hk]; rfl)
  have hbL : base.get? env.locals = none := Heap.get?_none_of_le F.above
  exact h h₄ ((hs₄.2 e (Ne.symm hLe)).trans c1) ((c3.mono (fun _ q => q) (fun _ q => List.mem_cons.mpr (.inl (List.mem_singleton.mp q)))).trans (Kept.same hs₄ (by show env.locals ∈ [e, env.locals]; simp))) (stays_same hs₄ c4 hbL) hn₄
end
section
variable {prog : Program} {w : World} {A : Around} {K : Frag} {s : Shared} {base : Heap} {l : List Env} {R : Result → Shared → Prop} {p : Program} {loose : List Str} {mean : ExcName → Option Value} {mg mb : Str → Option Value}
/-- a def with cells is called -/
theorem enterC {name qual : Str} {params : Arguments} {body : List Stmt} {scope : Scope} {dV kV doc pm cdv ct oc : Value} {an od : Option Addr} {osl : Array (Option Value)} {f : Addr} {vals : List Value} {binds : List (Str × Value)}
    (hst : base.StaysIn s.heap) (X : K.In base) (T : Top p loose mean mg mb base)
    (ho : K.lookup f = some ⟨oc, od, .func (fnOf name qual params body scope dV kV doc pm an cdv ct), osl⟩) (hcd : codeIn K cdv qual = true) (hroom : A.depth < recursionLimit)
    (hbind : bindArgs (fnOf name qual params body scope dV kV doc pm an cdv ct) ⟨vals, []⟩ = pure binds)
    (hkind : ∀ x ∈ binds, scope.names.lookup x.1 = some .local ∨ (scope.names.lookup x.1 = some .cell ∧ ((cellsFrom (s.heap.objs.size + 1) scope.names []).lookup x.1).isSome = true))
    (h : ∀ L' h₁ tk cells, L' = s.heap.objs.size → Fr s.heap L' h₁ (bindL (envX qual scope L' f cdv (cellsFrom (L' + 1) scope.names [])).kindOf binds fun _ => none) → News s.heap L' h₁ cells → CellsAre (bindC (envX qual scope L' f cdv (cellsFrom (L' + 1) scope.names [])).kindOf binds fun _ => none) (cellsFrom (L' + 1) scope.names []) cells →
      wpAny (model prog w) (A.deeper (envX qual scope L' f cdv (cellsFrom (L' + 1) scope.names []))) (execs body (envX qual scope L' f cdv (cellsFrom (L' + 1) scope.names [])))
        (fun fl s' => R (.ok (.ret (match fl with | .ret v => v | _ => .none))) s')
        (fun e s' => wpAny (model prog w) (A.deeper (envX qual scope L' f cdv (cellsFrom (L' + 1) scope.names []))) (leaving (envX qual scope L' f cdv (cellsFrom (L' + 1) scope.names [])) e) (fun _ s'' => R (.error e) s'') (fun e' s'' => R (.error e') s'') s')
        { s with heap := h₁, toks := tk })
    (hco : scope.isCoroutine = false) (hgen : scope.isGenerator = false) (hk : scope.kind = .function) (hnd : ((cellsFrom 0 scope.names []).map (·.1)).Nodup) : codeAny (model prog w) A (.call (.ref f) ⟨vals, []⟩) R s := by
  have XS := X.keeps hst
  refine codeAny_call_cells (fd := fnOf name qual params body scope dV kV doc pm an cdv ct) (body := body) (binds := binds) hroom (XS _ _ ho) rfl (T.nolimit.keeps hst) (codeRec_of XS hcd) rfl hbind rfl hkind (fun s₁ I => ?_) hco hgen hk
  obtain ⟨⟨⟨h₁, tk, rfl⟩, ns, keep, fresh⟩, cell, apart, above⟩ := I
  have hnd2 : ((cellsFrom (s.heap.objs.size + 1) scope.names []).map (·.1)).Nodup := by
    rw [cellsFrom_names scope.names (s.heap.objs.size + 1) 0 [] [] rfl]; exact hnd
  obtain ⟨cells, N, CA⟩ := Cl.news (h₀ := s.heap) (L := s.heap.objs.size) (cs := cellsFrom (s.heap.objs.size + 1) scope.names []) (Nat.le_refl _) fun n c hm => ⟨cell n c (lookup_of_mem_nodup hnd2 hm), above n c hm⟩
  exact h _ h₁ tk cells rfl ⟨ns, keep, Nat.le_refl _⟩ N CA
end
end Mine

end
section -- R1w
open PySem PySem.W PyProof.Rows Mine
set_option maxRecDepth 100000
set_option maxHeartbeats 1000000
set_option linter.unusedVariables false
namespace Mine

/-- what a class of ours must bear for its errors to be read -/
structure CF (K : Frag) (C : Addr) : Prop where
  ga : findIn K (.ref C) "__getattribute__" = some (some (.builtin "BaseException.__getattribute__"))
  gh : findIn K (.ref C) "__getattr__" = some none
  ms : findIn K (.ref C) "message" = some none
  se : findIn K (.ref C) "section" = some none
  op : findIn K (.ref C) "option" = some none
  li : findIn K (.ref C) "lineno" = some none
  ar : findIn K (.ref C) "args" = some (some (.builtin "BaseException.args"))
  st : findIn K (.ref C) "__str__" = some (some (.ref 36))
  rp : findIn K (.ref C) "__repr__" = some (some (.ref 36))
theorem cf_all (P : Params) : ∀ f, CF (hd.heap_39 P) (fltCls f)
  | .ds _ => ⟨by kernel_rfl, by kernel_rfl, by kernel_rfl, by kernel_rfl, by kernel_rfl, by kernel_rfl, by kernel_rfl, by kernel_rfl, by kernel_rfl⟩
  | .dop _ _ => ⟨by kernel_rfl, by kernel_rfl, by kernel_rfl, by kernel_rfl, by kernel_rfl, by kernel_rfl, by kernel_rfl, by kernel_rfl, by kernel_rfl⟩
  | .ns _ => ⟨by kernel_rfl, by kernel_rfl, by kernel_rfl, by kernel_rfl, by kernel_rfl, by kernel_rfl, by kernel_rfl, by kernel_rfl, by kernel_rfl⟩
  | .no _ _ => ⟨by kernel_rfl, by kernel_rfl, by kernel_rfl, by kernel_rfl, by kernel_rfl, by kernel_rfl, by kernel_rfl, by kernel_rfl, by kernel_rfl⟩
theorem cf_get (P : Params) : specialIn (hd.heap_39 P) (.builtin "BaseException.args") "__get__" = some (some (.builtin "getset_descriptor.__get__")) := by kernel_rfl
theorem cf_takes (P : Params) : takesIn (hd.heap_39 P) (.builtin "BaseException.args") = some true := by kernel_rfl
theorem handed_dat {v : Value} {d : Dat} (h : DatIn [] v d) : handedIn v = true := h.handed
section
variable {prog : Program} {w : World} {A : Around} {E : Value → Shared → Prop} {s : Shared} {L e d t : Addr} {Q : Value → Shared → Prop} {f : Flt} {n : Nat} {tb ctx : Value} {expr : Bool}
theorem FltAt.inst (x : FltAt f n s.heap e d t tb ctx) : ∃ es m, InstAt s.heap e (excObj (fltCls f) (some d) (.ref t) tb ctx) (fltCls f) (some (dictOf es m)) ∧ NoRef es ∧ (∃ v, fnd "message" es = some v ∧ DatIn [] v (.str (wordsOf n f))) ∧ ∀ p ∈ attrsOf n f, ∃ v, fnd p.1 es = some v ∧ DatIn [] v p.2 := by
  obtain ⟨hx, ⟨es, m, hd, nr, ms, at_⟩, _⟩ := x
  exact ⟨es, m, ⟨hx, rfl, rfl, hd⟩, nr, ms, at_⟩
theorem get_named {name : Str} {es : List DictEntry} {m : Nat} {v : Value} {dt : Dat} (X : (hd.heap_39 w.params).In s.heap) (I : InstAt s.heap e (excObj (fltCls f) (some d) (.ref t) tb ctx) (fltCls f) (some (dictOf es m))) (nr : NoRef es) (ha : findIn (hd.heap_39 w.params) (.ref (fltCls f)) name = some none) (hv : fnd name es = some v) (hd : DatIn [] v dt) (h : Q v { s with toks := s.toks + 1 }) :
    wpAny (model prog w) A (getAttr (.ref e) name expr) Q E s :=
  have c := cf_all w.params f
  have cc := cc_all w.params f
  eget_value X I cc.ex c.ga c.gh (findObj_own cc.hd ha rfl (by rw [lookIn_dict, getL_fnd nr, hv])) hd.handed h
theorem get_msg (X : (hd.heap_39 w.params).In s.heap) (x : FltAt f n s.heap e d t tb ctx) (h : ∀ tk, Q (.str (wordsOf n f) tk) { s with toks := s.toks + 1 }) : wpAny (model prog w) A (getAttr (.ref e) "message" expr) Q E s := by
  obtain ⟨es, m, I, nr, ⟨v, hv, hd⟩, _⟩ := x.inst
  refine get_named X I nr (cf_all _ f).ms hv hd ?_
  cases hd
  exact h _
theorem get_attr {name : Str} {dt : Dat} (X : (hd.heap_39 w.params).In s.heap) (x : FltAt f n s.heap e d t tb ctx) (ha : findIn (hd.heap_39 w.params) (.ref (fltCls f)) name = some none) (hm : (name, dt) ∈ attrsOf n f) (h : ∀ v, DatIn [] v dt → Q v { s with toks := s.toks + 1 }) : wpAny (model prog w) A (getAttr (.ref e) name expr) Q E s := by
  obtain ⟨es, m, I, nr, _, at_⟩ := x.inst
  obtain ⟨v, hv, hd⟩ := at_ _ hm
  exact get_named X I nr ha hv hd (h v hd)
theorem get_args (X : (hd.heap_39 w.params).In s.heap) (x : FltAt f n s.heap e d t tb ctx) (h : Q (.ref t) { s with toks := s.toks + 1 }) : wpAny (model prog w) A (getAttr (.ref e) "args" expr) Q E s := by
  obtain ⟨es, m, I, _⟩ := x.inst
  have c := cf_all w.params f
  have cc := cc_all w.params f
  refine eget_args X I cc.ex c.ga c.gh ?_ h
  unfold findObj
  have hp := cc.ex
  have : ∃ cd, clsIn (hd.heap_39 w.params) (fltCls f) = some cd := by
    unfold exIn at hp
    split at hp
    · rename_i od cd sl ho; exact ⟨cd, by unfold clsIn; rw [ho]⟩
    · cases hp
  obtain ⟨cd, hc⟩ := this
  rw [hc, Option.bind_some, c.ar, Option.bind_some]
  simp only [cf_get, cf_takes, Option.bind_some]
end
theorem words_code {prog : Program} {w : World} {base : Heap} {l : List Env} {mg mb : Str → Option Value} {loose : List Str} {mean : ExcName → Option Value} {s : Shared} {R : Result → Shared → Prop} {A : Around} {f : Flt} {n : Nat} {e d t : Addr} {tb ctx : Value} (hx : FltAt f n s.heap e d t tb ctx)
    (hst : base.StaysIn s.heap) (hff : s.heap.FunFrames base l) (X : (hd.heap_39 w.params).In base) (T : Top hd.view_39 loose mean mg mb base) (hA : A.frames = some l) (hdp : A.depth ≤ 900)
    (h : ∀ h' t' tk', (∀ b o, s.heap.get? b = some o → h'.get? b = some o) → R (.ok (.ret (.str (wordsOf n f) t'))) { s with heap := h', toks := tk' }) :
    codeAny (model prog w) A (.call (.ref 36) ⟨[.ref e], []⟩) R s := by
  w_on
  refine' enter0 (binds := [("self", .ref e)]) hA hst hff X T ?k6 ?k7 ?k8 ?k9 ?kB ?_ ?c2 ?c3 ?c4 ?c5
  (case k6 => k_dflt k_is); (case k7 => k_dflt k_is); (case k8 => exact Nat.lt_of_le_of_lt hdp (by decide)); (case k9 => exact BindsTo.of_eq rfl); (case c5 => decide); (case kB => exact locs rfl); (case c2 => exact rfl); (case c3 => exact rfl); (case c4 => exact rfl)
  intro L' h₁ F' N' B' X' T'
  k_fold
  have hx1 : FltAt f n h₁ e d t tb ctx := by
    obtain ⟨hx, ⟨es, m, hd, r⟩, ⟨vs, ht, r2⟩⟩ := hx
    exact ⟨F'.keep _ _ hx, ⟨es, m, F'.keep _ _ hd, r⟩, ⟨vs, F'.keep _ _ ht, r2⟩⟩
  repeat' (first | (with_reducible refine execs_one ?_; (try dsimp only)) | (((with_reducible show wpAny _ _ (getAttr (Value.ref e) (PySem.Str.ofString "message") _) _ _ _); k_dflt (refine get_msg (X'.keeps F'.keep) hx1 ?_)); intro tkm; (try dsimp only)) | (walk1; (try dsimp only)) | (dsimp only; walk1) | (dsimp only [List.nil_append, List.cons_append]; walk1) | fail "no step")
  k_unfold
  exact h _ _ _ F'.keep
section
variable {prog : Program} {w : World} {A : Around} {E : Value → Shared → Prop} {s : Shared} {base : Heap} {l : List Env} {e d t : Addr} {Q : Value → Shared → Prop} {f : Flt} {n : Nat} {tb ctx : Value} {mg mb : Str → Option Value} {loose : List Str} {mean : ExcName → Option Value}
/-- str(err) -/
theorem str_K (hx : FltAt f n s.heap e d t tb ctx) (hst : base.StaysIn s.heap) (hff : s.heap.FunFrames base l) (X : (hd.heap_39 w.params).In base) (T : Top hd.view_39 loose mean mg mb base) (hA : A.frames = some l) (hdp : A.depth ≤ 800) (hun : A.units ≤ 9000)
    (h : ∀ h' t' tk', (∀ b o, s.heap.get? b = some o → h'.get? b = some o) → Q (.str (wordsOf n f) t') { s with heap := h', toks := tk' }) : wpAny (model prog w) A (call (.type "str") [.ref e]) Q E s := by
  obtain ⟨es, m, I, _⟩ := hx.inst
  refine kso_call (by show A.units + 1 + 1 < cLine; rw [show cLine = 9900 from rfl]; omega) (X.keeps hst) I (cf_all _ f).st (by kernel_rfl) ?_
  exact wpAny_call (words_code (A := A.in1.in1) hx hst hff X T hA (by show A.depth ≤ 900; omega) fun h' t' tk' k => h h' t' tk' k)
/-- repr(err) -/
theorem repr_E (hx : FltAt f n s.heap e d t tb ctx) (hst : base.StaysIn s.heap) (hff : s.heap.FunFrames base l) (X : (hd.heap_39 w.params).In base) (T : Top hd.view_39 loose mean mg mb base) (hA : A.frames = some l) (hdp : A.depth ≤ 800) (hun : A.units ≤ 9000) {L : Addr} {m : Str → Option Value} {h₀ : Heap} (F : Fr h₀ L s.heap m) (X₀ : (hd.heap_39 w.params).In h₀)
    (h : ∀ h' t' tk', (∀ b o, s.heap.get? b = some o → h'.get? b = some o) → Q (.str (wordsOf n f) t') { s with heap := h', toks := tk' }) : wpAny (model prog w) A (call (.builtin "repr") [.ref e]) Q E s := by
  obtain ⟨es, m, I, _⟩ := hx.inst
  refine repr_K (by show A.units + 1 < cLine; rw [show cLine = 9900 from rfl]; omega) F X₀ I (cf_all _ f).rp (by kernel_rfl) ?_
  exact wpAny_call (words_code (A := A.in1) hx hst hff X T hA (by show A.depth ≤ 900; omega) fun h' t' tk' k => h h' t' tk' k)
end
end Mine

end
section -- R1y
set_option maxRecDepth 100000
set_option maxHeartbeats 1000000
set_option linter.unusedVariables false
namespace Mine
open PySem PySem.W PySem.Calls PyProof.Rows
section
variable {prog : Program} {w : World} {A A₀ : Around} {E : Value → Shared → Prop} {s : Shared} {base g : Heap} {outer : List Env} {env : Env} {loose : List Str} {mean : ExcName → Option Value} {mg mb : Str → Option Value} {L e d t : Addr} {m : Str → Option Value} {news : List (Addr × Obj)} {Q : Value → Shared → Prop} {f : Flt} {n : Nat} {tb ctx : Value}
theorem frames_F (B : Below A₀ base outer g) (F : Fr g L s.heap m) (hf : env.frame = some L) (hke : env.scope.kind = .function) : base.StaysIn s.heap ∧ s.heap.FunFrames base (env :: outer) := by
  have hbL : base.get? L = none := by
    cases q : base.get? L with
    | none => rfl
    | some o => exact absurd (Nat.lt_of_lt_of_le (Heap.lt_size (B.stays L o q)) F.above) (Nat.lt_irrefl _)
  exact ⟨fun b o e => F.keep b o (B.stays b o e), .cons (by rw [hke]; decide) hf F.ns hbL (B.frames.of_keeps fun b o e _ => ⟨o, F.keep b o e, rfl⟩)⟩
theorem grow_F {h' : Heap} (F : Fr g L s.heap m) (N : News g L s.heap news) (k : ∀ b o, s.heap.get? b = some o → h'.get? b = some o) : Fr g L h' m ∧ News g L h' news :=
  ⟨⟨F.ns.keeps k, fun b o q => k b o (F.keep b o q), F.above⟩, fun p hp => ⟨k _ _ (N p hp).1, (N p hp).2⟩⟩
theorem str_N (B : Below A₀ base outer g) (F : Fr g L s.heap m) (N : News g L s.heap news) (hA : A.frames = some (env :: outer)) (hf : env.frame = some L) (hke : env.scope.kind = .function) (X : (hd.heap_39 w.params).In base) (T : Top hd.view_39 loose mean mg mb base) (hdp : A.depth ≤ 800) (hun : A.units ≤ 9000)
    (hx : FltAt f n s.heap e d t tb ctx) (h : ∀ h' t' tk', Fr g L h' m → News g L h' news → Q (.str (wordsOf n f) t') { s with heap := h', toks := tk' }) : wpAny (model prog w) A (call (.type "str") [.ref e]) Q E s := by
  obtain ⟨h1, h2⟩ := frames_F B F hf hke
  exact str_K hx h1 h2 X T hA hdp hun fun h' t' tk' k => h h' t' tk' (grow_F F N k).1 (grow_F F N k).2
theorem repr_N (B : Below A₀ base outer g) (F : Fr g L s.heap m) (N : News g L s.heap news) (hA : A.frames = some (env :: outer)) (hf : env.frame = some L) (hke : env.scope.kind = .function) (X : (hd.heap_39 w.params).In base) (T : Top hd.view_39 loose mean mg mb base) (hdp : A.depth ≤ 800) (hun : A.units ≤ 9000)
    (hx : FltAt f n s.heap e d t tb ctx) (h : ∀ h' t' tk', Fr g L h' m → News g L h' news → Q (.str (wordsOf n f) t') { s with heap := h', toks := tk' }) : wpAny (model prog w) A (call (.builtin "repr") [.ref e]) Q E s := by
  obtain ⟨h1, h2⟩ := frames_F B F hf hke
  exact repr_E hx h1 h2 X T hA hdp hun F (X.keeps B.stays) fun h' t' tk' k => h h' t' tk' (grow_F F N k).1 (grow_F F N k).2
theorem place_N {x : Str} {tk : Tok} (hp : PlaceAt x n) (hn : n ≤ 22) (B : Below A₀ base outer g) (F : Fr g L s.heap m) (N : News g L s.heap news) (hA : A.frames = some (env :: outer)) (hf : env.frame = some L) (hke : env.scope.kind = .function) (X : (hd.heap_39 w.params).In base) (T : Top hd.view_39 loose mean mg mb base) (hdp : A.depth ≤ 900)
    (h : ∀ h' t' tk', Fr g L h' m → News g L h' news → Q (.int ((n : Int) - 1) t') { s with heap := h', toks := tk' }) : wpAny (model prog w) A (call (.ref 134) [.str x tk]) Q E s := by
  obtain ⟨h1, h2⟩ := frames_F B F hf hke
  exact wpAny_call (place_code hp hn h1 h2 X T hA hdp fun h' t' tk' k => h h' t' tk' (grow_F F N k).1 (grow_F F N k).2)
theorem quoted_N {x : Str} {tk : Tok} (hx : x ∈ secTexts ++ optTexts) (B : Below A₀ base outer g) (F : Fr g L s.heap m) (N : News g L s.heap news) (hA : A.frames = some (env :: outer)) (hf : env.frame = some L) (hke : env.scope.kind = .function) (X : (hd.heap_39 w.params).In base) (T : Top hd.view_39 loose mean mg mb base) (hdp : A.depth ≤ 900)
    (h : ∀ h' t' tk', Fr g L h' m → News g L h' news → Q (.str (quo x) t') { s with heap := h', toks := tk' }) : wpAny (model prog w) A (call (.ref 146) [.str x tk]) Q E s := by
  obtain ⟨h1, h2⟩ := frames_F B F hf hke
  exact wpAny_call (quoted_code hx h1 h2 X T hA hdp fun h' t' tk' k => h h' t' tk' (grow_F F N k).1 (grow_F F N k).2)
end
/-- the heap below n -/
def upTo (n : Nat) (h : Heap) : Heap := ⟨h.objs.extract 0 n, h.life⟩
theorem upTo_get {n : Nat} {h : Heap} {b : Addr} (hb : @LT.lt Nat _ b n) : (upTo n h).get? b = h.get? b := by
  have e : (h.objs.extract 0 n)[b]? = h.objs[b]? := by
    rw [Array.getElem?_extract]
    simp only [Nat.sub_zero, Nat.zero_add]
    by_cases z : @LT.lt Nat _ b h.objs.size
    · rw [if_pos (Nat.lt_min.mpr ⟨hb, z⟩)]
    · rw [if_neg fun q => z (Nat.lt_min.mp q).2, Array.getElem?_eq_none (Nat.le_of_not_lt z)]
  unfold Heap.get? upTo
  dsimp only
  rw [e]
theorem upTo_size (n : Nat) (h : Heap) : (upTo n h).objs.size ≤ n := by
  show (h.objs.extract 0 n).size ≤ n
  rw [Array.size_extract]; omega
theorem upTo_none {n : Nat} {h : Heap} {b : Addr} (hb : @LE.le Nat _ n b) : (upTo n h).get? b = none := Heap.get?_none_of_le (Nat.le_trans (upTo_size n h) hb)
theorem of_upTo {n : Nat} {h : Heap} {b : Addr} {o : Obj} (e : (upTo n h).get? b = some o) : h.get? b = some o := by
  by_cases z : @LT.lt Nat _ b n
  · rw [upTo_get z] at e; exact e
  · rw [upTo_none (Nat.le_of_not_lt z)] at e; cases e
section
variable {prog : Program} {w : World} {A : Around} {s : Shared} {base h4 : Heap} {l : List Env} {loose : List Str} {mean : ExcName → Option Value} {mg mb : Str → Option Value} {L : Addr} {m : Str → Option Value} {xs : List Addr}
/-- behind a flight: a new ground -/
theorem ground_at (hA : A.frames = some l) (hst : base.StaysIn s.heap) (hff : s.heap.FunFrames base l) (X : (hd.heap_39 w.params).In base) (T : Top hd.view_39 loose mean mg mb base) (K4 : Kept (l.filterMap (·.frame)) [] s.heap h4) (st4 : base.StaysIn h4) (ns : h4.Ns L m) (hL : L = s.heap.objs.size)
    (hx : ∀ x ∈ xs, New s.heap x ∧ base.get? x = none) :
    ∃ g, Fr g L h4 m ∧ Below A base l g ∧ (hd.heap_39 w.params).In g ∧ Top hd.view_39 loose mean mg mb g ∧ Kept (l.filterMap (·.frame)) [] s.heap g ∧ (∀ b o, g.get? b = some o → h4.get? b = some o) ∧ (∀ x ∈ xs, g.get? x = none) ∧ (∀ b, @LE.le Nat _ L b → g.get? b = none) := by
  have lt : ∀ b o, s.heap.get? b = some o → @LT.lt Nat _ b L := fun b o e => hL ▸ Heap.lt_size e
  have hg : ∀ b o, h4.get? b = some o → @LT.lt Nat _ b L → b ∉ xs → (hideAll (upTo L h4) xs).get? b = some o := fun b o e hb hbx => hideAll_get _ ((upTo_get hb).trans e) hbx
  have notx : ∀ b o, s.heap.get? b = some o → ¬ isTb o → b ∉ xs := fun b o e hnt z => (hx b z).1.ne e hnt rfl
  have Kg : Kept (l.filterMap (·.frame)) [] s.heap (hideAll (upTo L h4) xs) := fun b o e hb hnt => by
    obtain ⟨sl, e1, k1⟩ := K4 b o e hb hnt
    exact ⟨sl, hg b _ e1 (lt b o e) (notx b o e hnt), k1⟩
  have stg : base.StaysIn (hideAll (upTo L h4) xs) := fun b o e => hg b o (st4 b o e) (lt b o (hst b o e)) fun z => by rw [(hx b z).2] at e; cases e
  have ffg : (hideAll (upTo L h4) xs).FunFrames base l := Kg.funFrames hff fun _ _ z => absurd z List.not_mem_nil
  refine ⟨hideAll (upTo L h4) xs, ⟨ns, fun b o e => of_upTo (of_hideAll _ e), ?_⟩, ⟨hA, stg, ffg⟩, X.keeps stg, T.keeps stg, Kg, fun b o e => of_upTo (of_hideAll _ e), fun x h => hideAll_none _ h, fun b hb => ?_⟩
  · rw [hideAll_size]; exact upTo_size L h4
  · cases z : (hideAll (upTo L h4) xs).get? b with
    | none => rfl
    | some o => have := of_hideAll _ z; rw [upTo_none hb] at this; cases this
end
end Mine
namespace Mine
open PySem PySem.W PySem.Calls PyProof.Rows
section
variable {prog : Program} {w : World} {A : Around} {s : Shared} {base h₁ h2 h3 h4 : Heap} {l : List Env} {env : Env} {loose : List Str} {mean : ExcName → Option Value} {mg mb : Str → Option Value} {L e d t : Addr} {m m1 m4 : Str → Option Value} {f : Flt} {n : Nat} {tb tb3 : Value} {oN oR : Obj} {vN vR : Option Value}
theorem notTbC {o : Obj} {v : Option Value} (h : o.data = .cell v) : ¬ isTb o := fun x => by obtain ⟨_, vs, z⟩ := x; rw [h] at z; cases z
/-- a clause has taken the error: what stands where -/
theorem after_hit (hA : A.frames = some l) (hst : base.StaysIn s.heap) (hff : s.heap.FunFrames base l) (X : (hd.heap_39 w.params).In base) (T : Top hd.view_39 loose mean mg mb base) (hL : L = s.heap.objs.size) (hfe : env.frame = some L)
    (F1 : Fr s.heap L h₁ m1) (N1 : News s.heap L h₁ [(L + 1 + 1, oN), (L + 1, oR)]) (hoN : oN.data = .cell vN) (hoR : oR.data = .cell vR) (ff1 : h₁.FunFrames base (env :: l))
    (K2 : Kept ((env :: l).filterMap (·.frame)) [] h₁ h2) (FA : FltAt f n h2 e d t tb .none) (hNE : New h₁ e) (hND : New h₁ d) (hNT : New h₁ t) (Nb : base.get? e = none ∧ base.get? d = none ∧ base.get? t = none)
    (K3 : Kept ((env :: l).filterMap (·.frame)) [e] h2 h3) (he4 : h4.get? e = some (excObj (fltCls f) (some d) (.ref t) tb3 .none)) (K4 : Kept (l.filterMap (·.frame)) [e, L] h3 h4) (st4 : base.StaysIn h4) (ns4 : h4.Ns L m4) :
    ∃ g es k vs, Fr g L h4 m4 ∧ News g L h4 [(L + 1 + 1, oN), (L + 1, oR), (e, excObj (fltCls f) (some d) (.ref t) tb3 .none), (d, dictOf es k), (t, tupObj vs)] ∧ Below A base l g ∧ (hd.heap_39 w.params).In g ∧ Top hd.view_39 loose mean mg mb g ∧ Kept (l.filterMap (·.frame)) [] s.heap g ∧
      NoRef es ∧ (∃ v, fnd "message" es = some v ∧ DatIn [] v (.str (wordsOf n f))) ∧ (∀ p ∈ attrsOf n f, ∃ v, fnd p.1 es = some v ∧ DatIn [] v p.2) ∧ DatAll [] vs (argsOf n f) ∧ New s.heap t ∧
      (@Ne Nat (L + 1) (L + 1 + 1) ∧ @Ne Nat e (L + 1 + 1) ∧ @Ne Nat d (L + 1 + 1) ∧ @Ne Nat t (L + 1 + 1)) := by
  obtain ⟨oL, esL, epL, hoL, hdL, _⟩ := id F1.ns
  have ntL : ¬ isTb oL := fun x => by obtain ⟨_, vs, z⟩ := x; rw [hdL] at z; cases z
  have hLe : e ≠ L := hNE.ne hoL ntL
  have hLd : d ≠ L := hND.ne hoL ntL
  have hLt : t ≠ L := hNT.ne hoL ntL
  obtain ⟨hde, hte, hdt⟩ := FA.de
  have nN := N1 _ (.head _)
  have nR := N1 _ (.tail _ (.head _))
  have hNe : e ≠ L + 1 + 1 := hNE.ne nN.1 (notTbC hoN)
  have hNd : d ≠ L + 1 + 1 := hND.ne nN.1 (notTbC hoN)
  have hNt : t ≠ L + 1 + 1 := hNT.ne nN.1 (notTbC hoN)
  have hRe : e ≠ L + 1 := hNE.ne nR.1 (notTbC hoR)
  have up : ∀ {x h h'}, Kept ((env :: l).filterMap (·.frame)) x h h' → (∀ b ∈ x, b ∈ [e, L]) → Kept ((env :: l).filterMap (·.frame)) [e, L] h h' := fun k hx => k.mono (fun _ q => q) hx
  have K24 : Kept ((env :: l).filterMap (·.frame)) [e, L] h2 h4 := (up K3 fun b hb => by rw [List.mem_singleton.mp hb]; exact .head _).trans (K4.mono (fun b hb => by rw [List.filterMap_cons, hfe]; exact .tail _ hb) fun _ q => q)
  have K14 : Kept ((env :: l).filterMap (·.frame)) [e, L] h₁ h4 := (up K2 fun b hb => absurd hb List.not_mem_nil).trans K24
  have K04 : Kept (l.filterMap (·.frame)) [] s.heap h4 := by
    refine Kept.oldN ((Kept.of_keeps F1.keep).trans K14) (fun b hb => ?_) fun b hb => ?_
    · rw [List.filterMap_cons, hfe] at hb
      rcases List.mem_cons.mp hb with z | z
      · exact .inr (.of_none (by rw [z]; exact Heap.get?_none_of_le F1.above))
      · exact .inl z
    · rcases List.mem_cons.mp hb with z | z
      · exact .inr (by rw [z]; exact hNE.keeps F1.keep)
      · exact .inr (.of_none (by rw [List.mem_singleton.mp z]; exact Heap.get?_none_of_le F1.above))
  have above : ∀ b ∈ l.filterMap (·.frame), @LT.lt Nat _ b L := fun b hb => by
    obtain ⟨_, o, ho, _⟩ := hff.mem hb
    exact hL ▸ Heap.lt_size ho
  have nf : ∀ b, @LT.lt Nat _ L b → b ∉ (env :: l).filterMap (·.frame) := fun b hb z => by
    rw [List.filterMap_cons, hfe] at z
    rcases List.mem_cons.mp z with z | z
    · exact absurd hb (by rw [z]; exact Nat.lt_irrefl _)
    · exact absurd (Nat.lt_trans (above b z) hb) (Nat.lt_irrefl _)
  have FA4 : FltAt f n h4 e d t tb3 .none := FA.kept K24 he4 (by simp [hde, hLd]) (by simp [hte, hLt]) (hND.frames ff1) (hNT.frames ff1)
  have gN := K14.get nN.1 (by simp only [List.mem_cons, List.not_mem_nil, or_false, not_or]; exact ⟨fun z => hNe z.symm, fun z => absurd z (Nat.ne_of_gt (Nat.lt_succ_of_lt (Nat.lt_succ_self L)))⟩) (notTbC hoN) (nf _ (Nat.lt_succ_of_lt (Nat.lt_succ_self L)))
  have gR := K14.get nR.1 (by simp only [List.mem_cons, List.not_mem_nil, or_false, not_or]; exact ⟨fun z => hRe z.symm, fun z => absurd z (Nat.ne_of_gt (Nat.lt_succ_self L))⟩) (notTbC hoR) (nf _ (Nat.lt_succ_self L))
  obtain ⟨g, Fg, Bg, Xg, Tg, Kg, sub, gx, gL⟩ := ground_at (xs := [e, d, t]) hA hst hff X T K04 st4 ns4 hL (fun x hx => by
    simp only [List.mem_cons, List.not_mem_nil, or_false] at hx
    rcases hx with rfl | rfl | rfl
    · exact ⟨hNE.keeps F1.keep, Nb.1⟩
    · exact ⟨hND.keeps F1.keep, Nb.2.1⟩
    · exact ⟨hNT.keeps F1.keep, Nb.2.2⟩)
  obtain ⟨_, ⟨es, k, hd4, nr, ms, at_⟩, ⟨vs, ht4, hvs⟩⟩ := FA4
  refine ⟨g, es, k, vs, Fg, fun p hp => ?_, Bg, Xg, Tg, Kg, nr, ms, at_, hvs, hNT.keeps F1.keep, Nat.ne_of_lt (Nat.lt_succ_self _), hNe, hNd, hNt⟩
  simp only [List.mem_cons, List.not_mem_nil, or_false] at hp
  rcases hp with rfl | rfl | rfl | rfl | rfl
  · exact ⟨gN, nN.2.1, gL _ (Nat.le_of_lt (Nat.lt_succ_of_lt (Nat.lt_succ_self L)))⟩
  · exact ⟨gR, nR.2.1, gL _ (Nat.le_of_lt (Nat.lt_succ_self L))⟩
  · exact ⟨he4, hLe, gx _ (.head _)⟩
  · exact ⟨hd4, hLd, gx _ (.tail _ (.head _))⟩
  · exact ⟨ht4, hLt, gx _ (.tail _ (.tail _ (.head _)))⟩
end
end Mine
namespace Mine
open PySem PySem.W PySem.Calls PyProof.Rows
theorem flt_at {f : Flt} {n : Nat} {g h : Heap} {L e d t : Addr} {tb ctx : Value} {es : List DictEntry} {k : Nat} {vs : List Value} {news : List (Addr × Obj)} (N : News g L h news) (h1 : (e, excObj (fltCls f) (some d) (.ref t) tb ctx) ∈ news) (h2 : (d, dictOf es k) ∈ news) (h3 : (t, tupObj vs) ∈ news)
    (nr : NoRef es) (ms : ∃ v, fnd "message" es = some v ∧ DatIn [] v (.str (wordsOf n f))) (at_ : ∀ p ∈ attrsOf n f, ∃ v, fnd p.1 es = some v ∧ DatIn [] v p.2) (hvs : DatAll [] vs (argsOf n f)) : FltAt f n h e d t tb ctx :=
  ⟨(N _ h1).1, ⟨es, k, (N _ h2).1, nr, ms, at_⟩, ⟨vs, (N _ h3).1, hvs⟩⟩
theorem place_ds {n : Nat} {s : Str} (h1 : 1 ≤ n) (h2 : n ≤ 22) (hs : s ∈ secTexts) : PlaceAt (wordsOf n (.ds s)) n := by
  have e : wordsOf n (.ds s) = preT n ++ ((": section " : Str) ++ (quo s ++ (" already exists" : Str))) := by rw [wordsOf, preT]; simp only [app_assoc]
  rw [e]
  have a := (len_sec s hs).2
  have b : (": section " : Str).length = 10 := by decide +kernel
  have c : (" already exists" : Str).length = 15 := by decide +kernel
  exact place_of h1 h2 (by rw [app_len, app_len]; omega)
theorem place_do {n : Nat} {s o : Str} (h1 : 1 ≤ n) (h2 : n ≤ 22) (hs : s ∈ secTexts) (ho : o ∈ optTexts) : PlaceAt (wordsOf n (.dop s o)) n := by
  have e : wordsOf n (.dop s o) = preT n ++ ((": option " : Str) ++ (quo o ++ ((" in section " : Str) ++ (quo s ++ (" already exists" : Str))))) := by rw [wordsOf, preT]; simp only [app_assoc]
  rw [e]
  have a := (len_sec s hs).2
  have a2 := (len_opt o ho).2
  have b : (": option " : Str).length = 9 := by decide +kernel
  have b2 : (" in section " : Str).length = 12 := by decide +kernel
  have c : (" already exists" : Str).length = 15 := by decide +kernel
  exact place_of h1 h2 (by rw [app_len, app_len, app_len, app_len]; omega)
end Mine
namespace Mine
open PySem PySem.W PySem.Calls PyProof.Rows
/-- what _law_fault gives back for a row that does not go -/
def FaultOut (base : Heap) (l : List Env) (s : Shared) (f : Flt) (p : Nat) (R : Result → Shared → Prop) : Prop :=
  ∀ h' D D2 vals nl t tk', Kept (l.filterMap (·.frame)) [] s.heap h' → base.StaysIn h' → h'.get? D = some (listOf [Value.int p t, .ref D2].toArray 0) → h'.get? D2 = some (listOf vals.toArray 0) → DatAll nl vals (fltDats (p + 1) f) →
    (∀ x ∈ nl, h'.get? x.1 = some x.2 ∧ New s.heap x.1 ∧ ¬ isTb x.2) → New s.heap D → New s.heap D2 → R (.ok (.ret (.ref D))) { s with heap := h', toks := tk' }
theorem fault_end {s : Shared} {base g h : Heap} {l : List Env} {L D D2 t : Addr} {A : Around} {m : Str → Option Value} {rest : List (Addr × Obj)} {f : Flt} {p : Nat} {i : Int} {t1 t2 t3 : Tok} {k wd : Str} {vl : Value} {av : List Value} {R : Result → Shared → Prop} {tk : Nat}
    (h1 : FaultOut base l s f p R) (Kg : Kept (l.filterMap (·.frame)) [] s.heap g) (B : Below A base l g) (F : Fr g L h m) (N : News g L h ((D, listOf [Value.int i t1, .ref D2].toArray 0) :: (D2, listOf [Value.str k t2, .str wd t3, .ref t, vl].toArray 0) :: rest)) (ht : (t, tupObj av) ∈ rest)
    (hi : i = p) (hk : k = kindT f) (hw : wd = wordsOf (p + 1) f) (hvl : DatIn [] vl (.int (lineOf (p + 1) f))) (hvs : DatAll [] av (argsOf (p + 1) f)) (nT : New s.heap t) : R (.ok (.ret (.ref D))) { s with heap := h, toks := tk } := by
  subst hi hk hw
  have nD := N _ (.head _)
  have nD2 := N _ (.tail _ (.head _))
  have nt := N _ (.tail _ (.tail _ ht))
  refine h1 h D D2 _ [(t, tupObj av)] t1 tk (Kg.trans (Kept.of_keeps F.keep)) (fun b o e => F.keep b o (B.stays b o e)) nD.1 nD2.1 ?_ ?_ ((New.of_none nD.2.2).back Kg List.not_mem_nil) ((New.of_none nD2.2.2).back Kg List.not_mem_nil)
  · exact .cons (.str _ _) (.cons (.str _ _) (.cons (.tuple (.head _) (hvs.mono fun _ z => absurd z List.not_mem_nil)) (.cons (hvl.mono fun _ z => absurd z List.not_mem_nil) .nil)))
  · intro x hx
    rw [List.mem_singleton.mp hx]
    exact ⟨nt.1, nT, notTbT⟩
end Mine

end
section -- R1i
set_option maxRecDepth 100000
set_option maxHeartbeats 1000000
set_option linter.unusedVariables false
namespace Mine
open PySem PySem.W PySem.Calls PyProof.Rows
theorem news_raw {h : Heap} {nl : List (Addr × Obj)} (hnl : ∀ p ∈ nl, h.get? p.1 = some p.2) : News ⟨#[], h.life⟩ h.objs.size h nl := fun p hp => ⟨hnl p hp, Nat.ne_of_lt (Heap.lt_size (hnl p hp)), Heap.get?_none_of_le (Nat.zero_le _)⟩
theorem kqdPs_get : ∀ {ds : List Dat} {m : Nat} {d : Dat}, ds[m]? = some d → (kqdPs ds)[m]? = some (kqdP d)
  | [], _, _, h => by cases h
  | d :: ds, 0, _, h => by injection h with h; subst h; rw [kqdPs]; rfl
  | d :: ds, m + 1, _, h => by rw [kqdPs]; exact kqdPs_get (ds := ds) h
section
variable {prog : Program} {w : World} {A : Around} {E : Value → Shared → Prop} {s : Shared} {q : Addr} {vs : List Value} {n j : Nat} {ds : List Dat} {x : Value} {d : Dat} {nl nx : List (Addr × Obj)} {Q : Value → Shared → Prop}
theorem index_dat {h₀ : Heap} {L : Addr} (N : News h₀ L s.heap nx) (hq : s.heap.get? q = some (listOf vs.toArray n)) (D : DatAll nl vs ds) (hnl : ∀ p ∈ nl, s.heap.get? p.1 = some p.2) (Dx : DatIn nx x d) (ha : ∀ d ∈ ds, kqdOk 8 d = true) (hd : kqdOk 8 d = true)
    (hj : ds[j]? = some d) (hno : ∀ m, m < j → ds[m]? ≠ some d) (hz : ds.length ≤ 1000) (hu : A.units + 64 < cLine) (h : ∀ t, Q (.int (j : Int) t) { s with toks := s.toks + 1 }) : wpAny (model prog w) A (call (.builtin "list.index") [.ref q, x]) Q E s := by
  obtain ⟨as, ra⟩ := kqd_all (news_raw hnl) 8 D ha
  obtain ⟨bs, rx⟩ := kqd_in N 8 Dx hd
  have l := kqd_layL ha
  have ld := kqd_lay 8 d hd
  have ld2 := ld.2
  have hmin := Nat.min_le_right (PyData.depthAll (kqdPs ds)) (kqdP d).depth
  have hmap := SeqAt.readsAll_map (kqdPs ds) vs as l.1 ra
  have hvl : vs.length = ds.length := D.length
  have hjl : j < ds.length := (List.getElem?_eq_some_iff.mp hj).1
  have rd : ∀ m (hm : m < vs.toArray.size) dm, ds[m]? = some dm → SeqAt.readOf s.heap vs.toArray[m] = kqdP dm := fun m hm dm hdm => by
    have e1 := kqdPs_get hdm
    rw [← hmap, List.getElem?_map] at e1
    have hm' : m < vs.length := by simpa using hm
    rw [List.getElem?_eq_getElem hm'] at e1
    simp only [Option.map_some, Option.some.injEq] at e1
    simpa using e1
  have EQ := SeqAt.items_eqAt (A := A) (vs := vs.toArray) (by simpa using ra) rx l.1 ld.1 (by omega)
  refine call_meets PySem.F.slot_list_index ⟨_, hq, rfl⟩ PySem.F.entry_list_index (PySem.F.args_list_index_2 _ _)
    (SeqAt.list_indexAt q vs.toArray n none #[] x (fun y => PyData.eqv (SeqAt.readOf s.heap y) (kqdP d)) j (by simpa using (hvl ▸ hjl)) (by omega) ?_ ?_) ⟨hq, EQ, h _⟩
  · rw [rd j _ d hj]
    exact (kqd_eqv 8 d d 8 hd hd).mpr rfl
  · intro m hm hlt
    have hml : m < ds.length := by omega
    have hdm : ds[m]? = some ds[m] := List.getElem?_eq_getElem hml
    rw [rd m hm _ hdm]
    refine Bool.eq_false_iff.mpr fun z => ?_
    have := (kqd_eqv 8 ds[m] d 8 (ha _ (List.getElem_mem _)) hd).mp z
    exact hno m hlt (by rw [hdm, this])
theorem method_raw {name : Str} {id : String} {pl : Sem Bool} {its : Array Value} {Q : Value × List Value → Shared → Prop} (hq : s.heap.get? q = some (listOf its n)) (slot : Slot "list" name id) (hty : typeOf (.builtin id) = pure (.type "method_descriptor"))
    (h : Q (.builtin id, [.ref q]) s) : wpAny (model prog w) A (getMethod (.ref q) name pl) Q E s :=
  getMethod_builtin ⟨_, hq, rfl⟩ PySem.F.plainAttrs_list slot hty (fun a e => by cases e; exact ⟨_, hq, rfl⟩) h
end
/-- the rows as data -/
theorem RowsAll.data {S : Heap} : ∀ {vs : List Value} {rs : List Row}, RowsAll S vs rs → ∃ nl : List (Addr × Obj), (∀ p ∈ nl, S.get? p.1 = some p.2 ∧ ∃ xs k, p.2 = listOf xs k) ∧ DatAll nl vs (rs.map fun r => Dat.list r.dats)
  | _, _, .nil => ⟨[], (fun p hp => absurd hp List.not_mem_nil), .nil⟩
  | _, _, .cons (a := a) (rv := rv) (n := n) h1 h2 h3 x => by
    obtain ⟨nl, k1, k2⟩ := x.data
    refine ⟨(a, listOf rv.toArray n) :: nl, fun p hp => ?_, .cons (.list (.head _) (h2.mono fun _ z => absurd z List.not_mem_nil)) (k2.mono fun _ z => .tail _ z)⟩
    rcases List.mem_cons.mp hp with rfl | hp
    · exact ⟨h1, _, _, rfl⟩
    · exact k1 p hp
theorem ok_head : kqdOk 8 (.str "head") = true ∧ kqdOk 8 (.str "set") = true ∧ kqdOk 8 (.str "look") = true ∧ kqdOk 8 (.str "") = true := by decide +kernel
theorem Row.okD {r : Row} (h : r.ok) : kqdOk 8 (.list r.dats) = true := by
  obtain ⟨h1, h2, h3, h4⟩ := ok_head
  cases r with
  | head s => simp only [kqdOk, Row.dats, List.all_cons, List.all_nil, Bool.and_true]; have := ok_sec s h; simp only [kqdOk] at this h1 h4; simp [this, h1, h4]
  | opt o => simp only [kqdOk, Row.dats, List.all_cons, List.all_nil, Bool.and_true]; have := ok_opt o h; simp only [kqdOk] at this h2 h4; simp [this, h2, h4]
  | look o s => simp only [kqdOk, Row.dats, List.all_cons, List.all_nil, Bool.and_true]; have a := ok_opt o h.1; have b := ok_sec s h.2; simp only [kqdOk] at a b h3; simp [a, b, h3]
end Mine
namespace Mine
def isLook (rs : List Row) (x : PySem.Str) (i : Nat) : Bool := match rs[i]? with
  | some (.look _ s) => s == x
  | _ => false
end Mine
namespace Mine
open PySem PySem.W PyProof.Rows
def idx (rs : List Row) (x : Str) (i : Nat) : List Int := ((List.range i).filter (isLook rs x)).map fun k : Nat => (k : Int)
theorem ints_snoc {i : Int} {t : Tok} : ∀ {vs : List Value} {ns : List Int}, IntsAre vs ns → IntsAre (vs ++ [.int i t]) (ns ++ [i])
  | _, _, .nil => .cons _ _ .nil
  | _, _, .cons a b r => .cons a b (ints_snoc r)
theorem look_yes {rs : List Row} {x o s : Str} {i : Nat} {t : Tok} {ys : List Value} (hr : rs[i]? = some (.look o s)) (hs : (s == x) = true) (hG : IntsAre ys (idx rs x i)) : IntsAre (ys ++ [.int (i : Int) t]) (idx rs x (i + 1)) := by
  have h : isLook rs x i = true := by unfold isLook; rw [hr]; exact hs
  unfold idx
  rw [List.range_succ, List.filter_append, List.map_append, List.filter_cons_of_pos h]
  exact ints_snoc hG
theorem look_no {rs : List Row} {x : Str} {i : Nat} {ys : List Value} (h : isLook rs x i = false) (hG : IntsAre ys (idx rs x i)) : IntsAre ys (idx rs x (i + 1)) := by
  unfold idx
  rw [List.range_succ, List.filter_append, List.map_append, List.filter_cons_of_neg (by rw [h]; decide), List.filter_nil, List.map_nil, List.append_nil]
  exact hG
theorem no_head {rs : List Row} {x s : Str} {i : Nat} (hr : rs[i]? = some (.head s)) : isLook rs x i = false := by unfold isLook; rw [hr]
theorem no_opt {rs : List Row} {x s : Str} {i : Nat} (hr : rs[i]? = some (.opt s)) : isLook rs x i = false := by unfold isLook; rw [hr]
theorem no_look {rs : List Row} {x o s : Str} {i : Nat} (hr : rs[i]? = some (.look o s)) (hs : (s == x) = false) : isLook rs x i = false := by unfold isLook; rw [hr]; exact hs
theorem idx_first {rs : List Row} {x : Str} {p : Nat} (h1 : ∃ o, rs[p]? = some (.look o x)) (h2 : ∀ m, m < p → ∀ o, rs[m]? ≠ some (.look o x)) : ∃ tl, idx rs x rs.length = (p : Int) :: tl := by
  obtain ⟨o, ho⟩ := h1
  have hp : p < rs.length := (List.getElem?_eq_some_iff.mp ho).1
  have hy : isLook rs x p = true := by unfold isLook; rw [ho]; exact beq_self_eq_true x
  have hn : ∀ m, m < p → isLook rs x m = false := fun m hm => by
    unfold isLook
    cases hr : rs[m]? with
    | none => rfl
    | some r =>
      cases r with
      | head _ => rfl
      | opt _ => rfl
      | look o' s =>
        refine Bool.eq_false_iff.mpr fun z => ?_
        have z : s = x := eq_of_beq z
        exact h2 m hm o' (by rw [hr, z])
  have hf : (List.range rs.length).find? (isLook rs x) = some p := by
    rw [List.find?_range_eq_some]
    exact ⟨hy, List.mem_range.mpr hp, fun j hj => by rw [hn j hj]; rfl⟩
  rw [← List.head?_filter] at hf
  unfold idx
  cases hq : (List.range rs.length).filter (isLook rs x) with
  | nil => rw [hq] at hf; cases hf
  | cons a l =>
    rw [hq] at hf
    injection hf with hf
    subst hf
    exact ⟨_, rfl⟩
theorem ints_cons {i : Int} {tl : List Int} {ys : List Value} (h : IntsAre ys (i :: tl)) : ∃ t vs, ys = .int i t :: vs := by
  cases h with
  | cons a b r => exact ⟨_, _, rfl⟩
end Mine

end
section -- R1g
set_option maxRecDepth 100000
set_option maxHeartbeats 1000000
set_option linter.unusedVariables false
namespace Mine
open PySem PySem.W PySem.Calls PyProof.Rows PySem.Builtin
section
variable {prog : Program} {w : World} {A : Around} {E : Value → Shared → Prop} {s : Shared}
/-- the end of a range, while an error is handled -/
theorem range_end_h {it p C : Addr} {d : Option Addr} {a tb : Value} {x left step : Int} {Q : Option Value → Shared → Prop} (hh : A.handled = some (.ref p)) (hp : s.heap.get? p = some (excObj C d a tb .none)) (hit : IsRangeIter s.heap it x left step) (hleft : left ≤ 0)
    (hQ : ∀ h', Heap.ExtBut it s.heap h' → Q none { s with heap := h' }) : wpAny (model prog w) A (pyNext (.ref it)) Q E s := by
  have hT : s.TypeIs (.ref it) "range_iterator" := ⟨_, hit, rfl⟩
  unfold pyNext
  refine wpAny_bind (wpAny_attempt (wpAny_callSpecial?_slot (name := Str.ofString "__next__") hT F.slot_range_iterator_next
    (wpAny_call_entry F.slot_range_iterator_next hT F.entry_range_iterator_next ?_ (F.args_range_iterator_next_1 _))))
  show wpAny _ _ (field (.ref it) 0 >>= _) _ _ s
  refine wpAny_bind (wpAny_field hit rfl (x := rawInt x) rfl ?_)
  show wpAny _ _ (field (.ref it) 1 >>= _) _ _ s
  refine wpAny_bind (wpAny_field hit rfl (x := rawInt left) rfl ?_)
  show wpAny _ _ (field (.ref it) 2 >>= _) _ _ s
  refine wpAny_bind (wpAny_field hit rfl (x := rawInt step) rfl ?_)
  show wpAny _ _ (if left ≤ 0 then _ else _) _ _ s
  rw [if_pos hleft]
  refine wpAny_bind (wpAny_rule ?_)
  refine wpAny_bind ?_
  show wpAny _ _ (newExc (.type "StopIteration") [] >>= _) _ _ _
  refine wpAny_bind ?_
  simp only [newExc, newTuple]
  refine wpAny_bind (wpAny_newObj_type ?_ (by size_fits))
  refine wpAny_bind (m := firstArgMember _ _) (wpAny_of_eq (a := Value.none) (by first | rfl | (simp only [firstArgMember]; rfl)) ?_)
  refine wpAny_newObj_type ?_ (by size_fits)
  have hlt := Heap.lt_size hp
  generalize hH1 : s.heap.push _ = H1
  have h1 : H1.objs.size = s.heap.objs.size + 1 := by rw [← hH1, Heap.size_push]
  have k1 : ∀ b o, s.heap.get? b = some o → H1.get? b = some o := fun b o e => hH1 ▸ Heap.get?_push_of_some _ e
  have npx : p ≠ H1.objs.size := by rw [h1]; exact Nat.ne_of_lt (Nat.lt_succ_of_lt hlt)
  simp only [raiseNew]
  refine wpAny_bind (wpAny_handled ?_)
  first | rw [show A.in1.handled = some (.ref p) from hh] | rw [hh]
  dsimp only
  rw [if_pos (by simp [npx])]
  have hc : Ctxs (H1.push { cls := .type "StopIteration", data := .fields (#[Value.ref s.heap.objs.size, .none, .none, .none, .bool false, .none] ++ ownMembersOf (.type "StopIteration") []) }) p [] := .last (Heap.get?_push_of_some _ (k1 _ _ hp))
  refine wpAny_bind (wpAny_holding (wpAny_runValue (unchain (e := H1.objs.size) (o := p) (slow := p) (rem := []) (remS := []) hc hc (List.nodup_cons.mpr ⟨List.not_mem_nil, List.nodup_nil⟩) (fun z => npx (List.mem_singleton.mp z).symm) (.head _) ?_)))
  refine wpAny_bind ?_
  show wpAny _ _ (setField (.ref H1.objs.size) 2 (.ref p)) _ _ _
  have hX := Heap.get?_push_size H1 (o := { cls := .type "StopIteration", data := .fields (#[Value.ref s.heap.objs.size, .none, .none, .none, .bool false, .none] ++ ownMembersOf (.type "StopIteration") []) }) rfl
  refine wpAny_setField hX rfl (by rw [Array.size_append]; exact Nat.lt_of_lt_of_le (by decide : 2 < 6) (Nat.le_add_right _ _)) (wpAny_throw ?_)
  refine wpAny_bind (wpAny_isInstance (T := "StopIteration") (b := true) ⟨_, Heap.get?_update_self _ hX rfl, rfl⟩ isSubtype_stop ?_)
  refine wpAny_pure (hQ _ fun b o hb e => ?_)
  have e1 := k1 _ _ e
  rw [Heap.get?_update_other _ _ (Ne.symm (Nat.ne_of_lt (Heap.lt_size e1)))]
  exact Heap.get?_push_of_some _ e1
/-- a range gone through while an error is handled -/
theorem range_walks_h {I p C : Addr} {d : Option Addr} {a tb : Value} (hh : A.handled = some (.ref p)) (n : Nat) :
    Walks prog w A I [I, p] [I] n (fun i v => ∃ t, v = .int ((0 : Int) + (i : Int)) t) (fun i h => IsRangeIter h I (0 + (i : Nat) * 1) ((n : Int) - (i : Nat)) 1 ∧ h.get? p = some (excObj C d a tb .none) ∧ I ≠ p) where
  sub := fun b hb => by rw [List.mem_singleton.mp hb]; exact .head _
  frame := fun _ _ _ st hk => ⟨hk I (.head _) _ st.1, hk p (.tail _ (.head _)) _ st.2.1, st.2.2⟩
  item := fun i s Q E hi st hQ => by
    refine wpAny_pyNext_range_item st.1 (by omega) fun h' hit' hs' => ?_
    have e1 : (0 : Int) + ((i + 1 : Nat) : Int) * 1 = 0 + (i : Int) * 1 + 1 := by push_cast; omega
    have e2 : (n : Int) - ((i + 1 : Nat) : Int) = (n : Int) - (i : Int) - 1 := by push_cast; omega
    refine hQ _ h' _ ⟨_, by rw [Int.mul_one]⟩ ⟨?_, hs'.extBut p _ (Ne.symm st.2.2) st.2.1, st.2.2⟩ fun b o hb e => hs'.extBut b o (fun h => hb (List.mem_singleton.mpr h)) e
    rw [e1, e2]; exact hit'
  done := fun s Q E st hQ => range_end_h hh st.2.1 st.1 (by omega) fun h' he' => hQ h' s.toks fun b o hb e => he' b o (fun h => hb (List.mem_singleton.mpr h)) e
  self := fun _ _ _ _ st hQ => wpAny_pyIter_rangeiter st.1 hQ
end
end Mine
namespace Mine
open PySem PySem.W PySem.Calls PyProof.Rows PyProof.Rows.LCg PyProof.Rows.LCt
section
variable {prog : Program} {w : World} {A : Around} {E : Value → Shared → Prop} {s : Shared} {h₀ : Heap} {m : Str → Option Value} {env : Env}
/-- y = [elt for x in range(n) if ct], while an error is handled -/
theorem assign_comp_h {p Cx : Addr} {dx : Option Addr} {ax tb : Value} {ct elt iter : Expr} {x y : Str} {px py : Pos} {scope : Scope} {cl : List (Str × Addr)} {pos spos : Pos} {Q : Flow → Shared → Prop} (hh : A.handled = some (.ref p))
    (hsw : swapsWith (.ListComp elt [⟨.Name x px, iter, [ct], 0⟩] scope pos) (some (.Name y py)) spos.line env = pure true)
    (hclos : closureFor scope env = pure cl) (hcell : ∀ z ∈ scope.names, z.2 ≠ .cell) (hkind : scope.kind = .function)
    (hnames : ∀ z ∈ scope.names, z.2 = .local → scope.names.lookup z.1 = some .local) (hx : scope.names.lookup x = some .local)
    (hy : env.kindOf y = some .local) (hp : (env.scope.kind == .class || (env.scope.kind == .module && env.locals != env.globals)) = false) (hs : ∀ x, foldedSetIterable iter env x = pure x)
    (h : wpAny (model prog w) A (eval iter env) (fun xv s₁ => ∃ (r : Addr) (t u v : Tok) (n : Nat) (news : List (Addr × Obj)), xv = .ref r ∧ Fr h₀ env.locals s₁.heap m ∧ News h₀ env.locals s₁.heap news ∧ (p, excObj Cx dx ax tb .none) ∈ news ∧ IsRange s₁.heap r 0 n 1 t u v ∧ Builtin.Range.small 0 n 1 = true ∧ Builtin.Range.rangeSize 0 n 1 = ((n : Nat) : Int) ∧ n ≤ sizeLine ∧
      ∀ g, CompRestT prog w A h₀ env.locals m env ct elt x scope cl { s₁ with heap := g } (fun nw => (p, excObj Cx dx ax tb .none) ∈ nw) (fun i v => ∃ t, v = .int (0 + (i : Int)) t) (FinA h₀ env.locals m { s₁ with heap := g } y Q) n 0 [] news) E s) :
    wpAny (model prog w) A (exec (.Assign [.Name y py] (.ListComp elt [⟨.Name x px, iter, [ct], 0⟩] scope pos) spos) env) Q E s := by
  rw [exec_Assign_Name_used _ _ _ _ hsw]
  refine wpAny_bind (wpAny_standAt (wpAny_bind ?_))
  show wpAny _ A (do let _ ← comprehension (.ListComp elt [⟨.Name x px, iter, [ct], 0⟩] scope pos) scope env _ (newList []) false (eval iter env) (some (assign (.Name y py) env))) _ _ s
  refine wpAny_bind (wpAny_mono (wpAny_comprehension_free (use := some (assign (.Name y py) env)) (Q := fun _ s' => Q .next s') rfl hs hclos hkind hnames (wpAny_mono h (fun xv s₁ h₁ => ?_) fun _ _ e => e)) (fun _ s' hq => wpAny_pure (wpAny_pure hq)) fun _ _ e => e)
  obtain ⟨r, t, u, v, n, news, rfl, F, N, hm, hr, hsm, hn, hsz, R⟩ := h₁
  have hpx := N _ hm
  have hlt : @LT.lt Nat _ p s₁.heap.objs.size := Heap.lt_size hpx.1
  refine wpAny_pyIter_range hr hsm ?_
  have up : ∀ b o, s₁.heap.get? b = some o → (s₁.heap.push { cls := .type "range_iterator", data := .fields #[rawInt 0, rawInt (Builtin.Range.rangeSize 0 n 1), rawInt 1] }).get? b = some o := fun _ _ e => Heap.get?_push_of_some _ e
  refine block_T (range_walks_h (C := Cx) (d := dx) (a := ax) (tb := tb) hh n) hsz (fun i h st => ⟨_, st.1⟩) (S := fun nw => (p, excObj Cx dx ax tb .none) ∈ nw) (fun i h h' o nw st e e' _ N' hS => ⟨?_, (N' _ hS).1, st.2.2⟩) hcell hkind hx ⟨?_, up _ _ hpx.1, Nat.ne_of_gt hlt⟩ (fun b hb => ?_)
    (F.keeps up) (N.grown up) (Nat.ne_of_lt F.ns.lt) (next_is_new F) (fun q hq => Nat.ne_of_lt (Heap.lt_size (N q hq).1)) hm (R _) ?_
  · have st' : h.get? s₁.heap.objs.size = some _ := st.1
    show h'.get? s₁.heap.objs.size = some _
    rw [e', ← e]; exact st'
  · show IsRangeIter _ _ _ _ _
    rw [hn]; simpa using Heap.get?_push_size _ rfl
  · show @LT.lt Nat _ b (s₁.heap.push _).objs.size
    rw [Heap.size_push]
    rcases List.mem_cons.mp hb with rfl | hb
    · exact Nat.lt_succ_self _
    · rw [List.mem_singleton.mp hb]; exact Nat.lt_succ_of_lt hlt
  · intro D C h' tk m' ys news' F' N' o1 hn hC₀ hD₀ hCL hDL hCD offC fin
    show wpAny _ A (assign (.Name y py) env (.ref D)) _ _ _
    refine wpAny_assign_Name (wpAny_storeName_local hy F'.ns (fun h₂ hn₂ hs₂ => ?_) hp)
    have hL₀ : h₀.get? env.locals = none := Heap.get?_none_of_le F'.above
    have F₂ : Fr h₀ env.locals h₂ (fun z => if z = y then some (.ref D) else m z) := F'.set hn₂ hs₂
    refine ⟨m', hn.sameBut hs₂ hCL, fun h'' hs'' => fin D h'' _ (F₂.change hs'' hCL hC₀) (fun q hq => ?_) o1⟩
    have z : h₂.get? q.1 = some q.2 := hs₂.extBut _ _ (N' q hq).2.1 (N' q hq).1
    refine ⟨hs''.extBut _ _ ?_ z, (N' q hq).2⟩
    rcases List.mem_cons.mp hq with rfl | hq
    · exact Ne.symm hCD
    · exact offC q hq
end
end Mine
namespace Mine
open PySem PySem.W PySem.Calls PyProof.Rows PyProof.Rows.LCg PyProof.Rows.LCt
section
variable {prog : Program} {w : World} {A : Around} {s : Shared} {h₀ : Heap} {L : Addr} {m : Str → Option Value} {env : Env}
theorem compEnd_mono {s₁ s₂ : Shared} {I C D : Addr} {oI oC oD : Obj} {S : List (Addr × Obj) → Prop} {r r' : Value → List (Addr × Obj) → Prop} {y : Value} (h : CompEnd h₀ L m s₁ I oI C oC D oD S r y s₂) (k : ∀ nw, r y nw → r' y nw) : CompEnd h₀ L m s₁ I oI C oC D oD S r' y s₂ := by
  obtain ⟨h', tk, nw, e, F, N, o, hS, hr⟩ := h
  exact ⟨h', tk, nw, e, F, N, o, hS, k nw hr⟩
/-- the turns of a comprehension, by what holds of the list -/
theorem compRest_of {ct elt : Expr} {x : Str} {scope : Scope} {cl : List (Str × Addr)} {S : List (Addr × Obj) → Prop} {P : Nat → Value → Prop} {Fin : List Value → List (Addr × Obj) → Prop} {n : Nat} {news : List (Addr × Obj)} (G : Nat → List Value → Prop)
    (turn : ∀ i ys v I oI C oC D m₂ h tk (E' : Value → Shared → Prop), i < n → G i ys → P i v → NsObj oC m₂ → m₂ x = some v → Fr h₀ L h m → News h₀ L h ((I, oI) :: (C, oC) :: (D, lst ys) :: news) → Off3 I C D news → ((@Ne Nat I C) ∧ (@Ne Nat I D) ∧ (@Ne Nat C D)) →
      wpAny (model prog w) A (isTrue ct (compEnvC scope cl C env) (eval ct (compEnvC scope cl C env))) (fun ok s' => if ok = true then
        wpAny (model prog w) A (eval elt (compEnvC scope cl C env)) (CompEnd h₀ L m { s with heap := h, toks := tk } I oI C oC D (lst ys) S (fun y news' => news' = news ∧ G (i + 1) (ys ++ [y]))) E' s'
        else CompEnd h₀ L m { s with heap := h, toks := tk } I oI C oC D (lst ys) S (fun _ news' => news' = news ∧ G (i + 1) ys) Value.none s') E' { s with heap := h, toks := tk })
    (fin : ∀ ys, G n ys → Fin ys news) : ∀ (k i : Nat) (ys : List Value), i + k = n → G i ys → CompRestT prog w A h₀ L m env ct elt x scope cl s S P Fin k i ys news
  | 0, i, ys, e, hG => by
    have : i = n := by omega
    subst this
    exact CompRestT.zero (fin ys hG)
  | k + 1, i, ys, e, hG => by
    refine CompRestT.succ fun v I oI C oC D m₂ h tk E' hv hC hx F N off ne => ?_
    refine wpAny_mono (turn i ys v I oI C oC D m₂ h tk E' (by omega) hG hv hC hx F N off ne) (fun ok s' hq => ?_) fun _ _ z => z
    cases ok with
    | true =>
      simp only [if_true] at hq ⊢
      refine wpAny_mono hq (fun y s'' hq => compEnd_mono hq fun nw z => ?_) fun _ _ z => z
      rw [z.1]
      exact compRest_of G turn fin k (i + 1) _ (by omega) z.2
    | false =>
      simp only [Bool.false_eq_true, if_false] at hq ⊢
      refine compEnd_mono hq fun nw z => ?_
      rw [z.1]
      exact compRest_of G turn fin k (i + 1) _ (by omega) z.2
end
end Mine

end
section -- R1f
open PySem PySem.W PyProof.Rows Mine
set_option maxRecDepth 100000
set_option maxHeartbeats 1000000
set_option linter.unusedVariables false
namespace Mine

theorem fault_code {prog : Program} {w : World} {base : Heap} {l : List Env} {mg mb : Str → Option Value} {loose : List Str} {mean : ExcName → Option Value} {s : Shared} {R : Result → Shared → Prop} {A : Around} {rs : List Row} {vs : List Value} {q : Addr} {nq : Nat} (hR : RowsAll s.heap vs rs) (hq : s.heap.get? q = some (listOf vs.toArray nq)) (hlen : rs.length ≤ 22)
    (hst : base.StaysIn s.heap) (hff : s.heap.FunFrames base l) (X : (hd.heap_39 w.params).In base) (T : Top hd.view_39 loose mean mg mb base) (hA : A.frames = some l) (hdp : A.depth ≤ 700) (hun : A.units ≤ 7000) (hh : A.handled = none) (hst0 : Starts rs) (hbs : base.objs.size ≤ s.heap.objs.size) (hnf : ∀ b xs n, s.heap.get? b = some (listOf xs n) → b ∉ l.filterMap (·.frame))
    (h0 : firstF st0 rs = none → ∀ h' tk', (∀ b o, s.heap.get? b = some o → h'.get? b = some o) → R (.ok (.ret .none)) { s with heap := h', toks := tk' })
    (h1 : ∀ p f, firstF st0 rs = some (p, f) → FaultOut base l s f p R) :
    codeAny (model prog w) A (.call (.ref 139) ⟨[.ref q], []⟩) R s := by
  w_on
  refine' enterC (binds := [("rows", .ref q)]) hst X T ?k6 ?k7 ?k8 ?k9 ?kB ?_ ?c2 ?c3 ?c4 ?c5
  (case k6 => k_dflt k_is); (case k7 => k_dflt k_is); (case k8 => exact Nat.lt_of_le_of_lt hdp (by decide)); (case k9 => exact rfl); (case c2 => exact rfl); (case c3 => exact rfl); (case c4 => exact rfl)
  (case kB => intro x hx; rw [List.mem_singleton.mp hx]; exact .inr ⟨rfl, rfl⟩)
  (case c5 => decide)
  intro L' h₁ tk₁ cells hL' F' N' CA
  replace F' := (show Fr s.heap L' h₁ (fun _ => none) from F')
  replace CA : CellsAre (fun y => if y = "rows" then some (.ref q) else none) [("name", L' + 1 + 1), ("rows", L' + 1)] cells := CA
  obtain ⟨oN, oR, rfl, hoN, hoR⟩ := CA.two
  replace hoN : oN.data = Data.cell none := hoN
  replace hoR : oR.data = Data.cell (some (.ref q)) := hoR
  clear CA
  have X' := X.keeps hst
  have T' := T.keeps hst
  have B' : Below A base l s.heap := ⟨hA, hst, hff⟩
  show wpAny _ (A.deeper (envX _ _ L' 139 _ [("name", L' + 1 + 1), ("rows", L' + 1)])) (execs _ (envX _ _ L' 139 _ [("name", L' + 1 + 1), ("rows", L' + 1)])) _ _ _
  k_fold
  repeat' ((fail_if_success (with_reducible show wpAny _ _ (exec (Stmt.Try _ _ _ _ _) _) _ _ _)); first | (with_reducible refine execs_one ?_; (try dsimp only)) | (walk1; (try dsimp only)) | (dsimp only; walk1) | (dsimp only [List.nil_append, List.cons_append]; walk1) | fail "no step")
  refine wpAny_Try_except ?_
  repeat' ((fail_if_success (with_reducible show wpAny _ _ (call (Value.ref _) _) _ _ _)); first | (with_reducible refine execs_one ?_; (try dsimp only)) | (walk1; (try dsimp only)) | (dsimp only; walk1) | (dsimp only [List.nil_append, List.cons_append]; walk1) | fail "no step")
  have hvl := hR.len
  have hLn : s.heap.get? L' = none := Heap.get?_none_of_le F'.above
  have hbL : base.get? L' = none := by
    cases z : base.get? L' with
    | none => rfl
    | some o => rw [hst _ _ z] at hLn; cases hLn
  have ff1 : ∀ env : Env, env.frame = some L' → env.scope.kind = .function → h₁.FunFrames base (env :: l) := fun env u1 u2 => .cons (by rw [u2]; decide) u1 F'.ns hbL (hff.of_keeps fun b o e _ => ⟨o, F'.keep b o e, rfl⟩)
  refine wpAny_call (read_code (rs := rs) (vs := vs) (nq := nq) (base := base) (l := _ :: l) (hR.keeps F'.keep) (F'.keep _ _ hq) hlen (fun b o e => F'.keep _ _ (hst b o e)) (ff1 _ rfl rfl) X T (Around.frames_deeper hA) (by rw [depth_deeper]; omega) (by show A.units + 3 ≤ 8000; omega) hh hst0 ?hz0 ?hz1)
  case hz0 =>
    intro hz h2 tk2 k2
    replace F' : Fr s.heap L' h2 (fun _ => none) := ⟨F'.ns.keeps k2, fun b o e => k2 b o (F'.keep b o e), F'.above⟩
    dsimp only
    repeat' (first | (with_reducible refine execs_one ?_; (try dsimp only)) | (walk1; (try dsimp only)) | (dsimp only; walk1) | (dsimp only [List.nil_append, List.cons_append]; walk1) | fail "no step")
    k_unfold
    exact h0 hz h2 _ F'.keep
  case hz1 =>
    intro p f hpf h2 e d t tb tk2 K2 st2 FA fly hE hD hT Nb
    dsimp only
    have ns2 := K2.ns F'.ns (by simp)
    have hLe : L' ≠ e := by
      obtain ⟨oL, esL, epL, hoL, hdL, _⟩ := id F'.ns
      exact Ne.symm (hE.ne hoL fun x => by obtain ⟨_, vs, z⟩ := x; rw [hdL] at z; cases z)
    refine try_noted rfl (Around.frames_deeper hA) (K2.funFrames (ff1 _ rfl rfl) fun _ _ z => absurd z List.not_mem_nil) FA.ex fly st2 Nb.1 ns2 hLe fun h3 tb3 b1 b2 b3 b4 b5 => ?_
    have F3 : Fr base L' h3 (fun _ => none) := ⟨b5, b4, hL' ▸ hbs⟩
    have hfok : f.ok := fault_ok hst0 hR.oks hpf
    have hpl : p < rs.length := (firstF_some (n := 0) hpf).1
    cases f with
    | ds x0 =>
      refine hb_hit rfl b1 b2 F3 X (fun F' hq => nameX_K F' X (topRead_of T) (by kernel_rfl) hq rfl rfl (by decide)) (c := .ref 79) (by kernel_rfl) hLe (l.filterMap (·.frame)) (fun h4 c1 c2 c3 c4 => ?_) rfl rfl
      obtain ⟨g, es, k, av, Fg, Ng, Bg, Xg, Tg, Kg, nr, ms, at_, hvs, nT, ne1, ne2, ne3, ne4⟩ := after_hit hA hst hff X T hL' rfl F' N' hoN hoR (ff1 _ rfl rfl) K2 FA hE hD hT Nb b3 c1 c2 c3 c4
      clear c1 c2 c3 c4 b1 b2 b3 b4 b5 F3 K2 FA ff1 F' N' hE hD hT ns2 fly st2 X' T' B'
      k_fold
      dsimp only
      have hd1 : A.depth + 1 ≤ 800 := by omega
      have hd2 : A.depth + 1 ≤ 900 := by omega
      have hu1 : A.units + 3 ≤ 9000 := by omega
      have hplace : PlaceAt (wordsOf (p + 1) (.ds x0)) (p + 1) := place_ds (by omega) (by omega) hfok
      repeat' (first | (with_reducible refine execs_one ?_; (try dsimp only)) | (((with_reducible show wpAny _ _ (call (Value.type "str") [Value.ref _]) _ _ _); k_dflt (refine str_N Bg (by k_asm) (by k_asm) (Around.frames_deeper hA) rfl rfl X T hd1 hu1 (flt_at (by k_asm) (by k_mem) (by k_mem) (by k_mem) nr ms at_ hvs) ?_)); intro h' t' tk' F' N'; (try dsimp only)) | (((with_reducible show wpAny _ _ (call (Value.ref 134) [Value.str _ _]) _ _ _); k_dflt (refine place_N (n := p + 1) hplace (by omega) Bg (by k_asm) (by k_asm) (Around.frames_deeper hA) rfl rfl X T hd2 ?_)); intro h' t' tk' F' N'; (try dsimp only)) | (((with_reducible show wpAny _ _ (getAttr (Value.ref e) (PySem.Str.ofString "args") _) _ _ _); k_dflt (refine get_args (Xg.keeps (by k_asm : Fr g L' _ _).keep) (flt_at (by k_asm) (by k_mem) (by k_mem) (by k_mem) nr ms at_ hvs) ?_)); (try dsimp only)) | (((with_reducible show wpAny _ _ (getAttr (Value.ref e) (PySem.Str.ofString "lineno") _) _ _ _); k_dflt (refine get_attr (Xg.keeps (by k_asm : Fr g L' _ _).keep) (flt_at (by k_asm) (by k_mem) (by k_mem) (by k_mem) nr ms at_ hvs) (cf_all _ _).li (.tail _ (.tail _ (.head _))) ?_)); intro vlineno dlineno; (try dsimp only)) | (((with_reducible show wpAny _ _ (newList _) _ _ _); k_dflt (refine newList_K (by k_asm) (by k_asm) ?_ (by rw [sizeLine_eq]; exact Nat.le_of_ble_eq_true rfl))); intro x' h' F' N' ltx; (try dsimp only)) | (walk1; (try dsimp only)) | (dsimp only; walk1) | (dsimp only [List.nil_append, List.cons_append]; walk1) | fail "no step")
      k_unfold
      refine wpAny_nameGoes_keeps (by rfl) F'.ns (by rfl) fun h13 v13 hn13 hs13 => ?_
      have F13 := F'.set hn13 hs13
      have N13 := N'.set hs13
      exact fault_end (s := s) (h1 p _ hpf) Kg Bg F13 N13 (by k_mem) (by push_cast; omega) rfl rfl dlineno hvs nT

    | dop x0 x1 =>
      refine hb_miss b1 F3 X (fun F' hq => nameX_K F' X (topRead_of T) (by kernel_rfl) hq rfl rfl (by decide)) (c := .ref 79) (by kernel_rfl) ?_
      refine hb_hit rfl b1 b2 F3 X (fun F' hq => nameX_K F' X (topRead_of T) (by kernel_rfl) hq rfl rfl (by decide)) (c := .ref 99) (by kernel_rfl) hLe (l.filterMap (·.frame)) (fun h4 c1 c2 c3 c4 => ?_) rfl rfl
      obtain ⟨g, es, k, av, Fg, Ng, Bg, Xg, Tg, Kg, nr, ms, at_, hvs, nT, ne1, ne2, ne3, ne4⟩ := after_hit hA hst hff X T hL' rfl F' N' hoN hoR (ff1 _ rfl rfl) K2 FA hE hD hT Nb b3 c1 c2 c3 c4
      clear c1 c2 c3 c4 b1 b2 b3 b4 b5 F3 K2 FA ff1 F' N' hE hD hT ns2 fly st2 X' T' B'
      k_fold
      dsimp only
      have hd1 : A.depth + 1 ≤ 800 := by omega
      have hd2 : A.depth + 1 ≤ 900 := by omega
      have hu1 : A.units + 3 ≤ 9000 := by omega
      have hplace : PlaceAt (wordsOf (p + 1) (.dop x0 x1)) (p + 1) := place_do (by omega) (by omega) hfok.1 hfok.2
      repeat' (first | (with_reducible refine execs_one ?_; (try dsimp only)) | (((with_reducible show wpAny _ _ (call (Value.type "str") [Value.ref _]) _ _ _); k_dflt (refine str_N Bg (by k_asm) (by k_asm) (Around.frames_deeper hA) rfl rfl X T hd1 hu1 (flt_at (by k_asm) (by k_mem) (by k_mem) (by k_mem) nr ms at_ hvs) ?_)); intro h' t' tk' F' N'; (try dsimp only)) | (((with_reducible show wpAny _ _ (call (Value.builtin "repr") [Value.ref _]) _ _ _); k_dflt (refine repr_N Bg (by k_asm) (by k_asm) (Around.frames_deeper hA) rfl rfl X T hd1 hu1 (flt_at (by k_asm) (by k_mem) (by k_mem) (by k_mem) nr ms at_ hvs) ?_)); intro h' t' tk' F' N'; (try dsimp only)) | (((with_reducible show wpAny _ _ (call (Value.ref 134) [Value.str _ _]) _ _ _); k_dflt (refine place_N (n := p + 1) hplace (by omega) Bg (by k_asm) (by k_asm) (Around.frames_deeper hA) rfl rfl X T hd2 ?_)); intro h' t' tk' F' N'; (try dsimp only)) | (((with_reducible show wpAny _ _ (getAttr (Value.ref e) (PySem.Str.ofString "args") _) _ _ _); k_dflt (refine get_args (Xg.keeps (by k_asm : Fr g L' _ _).keep) (flt_at (by k_asm) (by k_mem) (by k_mem) (by k_mem) nr ms at_ hvs) ?_)); (try dsimp only)) | (((with_reducible show wpAny _ _ (getAttr (Value.ref e) (PySem.Str.ofString "lineno") _) _ _ _); k_dflt (refine get_attr (Xg.keeps (by k_asm : Fr g L' _ _).keep) (flt_at (by k_asm) (by k_mem) (by k_mem) (by k_mem) nr ms at_ hvs) (cf_all _ _).li (.tail _ (.tail _ (.tail _ (.head _)))) ?_)); intro vlineno dlineno; (try dsimp only)) | (((with_reducible show wpAny _ _ (newList _) _ _ _); k_dflt (refine newList_K (by k_asm) (by k_asm) ?_ (by rw [sizeLine_eq]; exact Nat.le_of_ble_eq_true rfl))); intro x' h' F' N' ltx; (try dsimp only)) | (walk1; (try dsimp only)) | (dsimp only; walk1) | (dsimp only [List.nil_append, List.cons_append]; walk1) | fail "no step")
      k_unfold
      refine wpAny_nameGoes_keeps (by rfl) F'.ns (by rfl) fun h13 v13 hn13 hs13 => ?_
      have F13 := F'.set hn13 hs13
      have N13 := N'.set hs13
      exact fault_end (s := s) (h1 p _ hpf) Kg Bg F13 N13 (by k_mem) (by push_cast; omega) rfl rfl dlineno hvs nT

    | ns x0 =>
      have hqn := hnf q _ _ hq
      refine hb_miss b1 F3 X (fun F' hq => nameX_K F' X (topRead_of T) (by kernel_rfl) hq rfl rfl (by decide)) (c := .ref 79) (by kernel_rfl) ?_
      refine hb_miss b1 F3 X (fun F' hq => nameX_K F' X (topRead_of T) (by kernel_rfl) hq rfl rfl (by decide)) (c := .ref 99) (by kernel_rfl) ?_
      refine hb_hit rfl b1 b2 F3 X (fun F' hq => nameX_K F' X (topRead_of T) (by kernel_rfl) hq rfl rfl (by decide)) (c := .ref 59) (by kernel_rfl) hLe (l.filterMap (·.frame)) (fun h4 c1 c2 c3 c4 => ?_) rfl rfl
      obtain ⟨g, es, k, av, Fg, Ng, Bg, Xg, Tg, Kg, nr, ms, at_, hvs, nT, ne1, ne2, ne3, ne4⟩ := after_hit hA hst hff X T hL' rfl F' N' hoN hoR (ff1 _ rfl rfl) K2 FA hE hD hT Nb b3 c1 c2 c3 c4
      clear c1 c2 c3 c4 b1 b2 b3 b4 b5 F3 K2 FA ff1 F' N' hE hD hT ns2 fly st2 X' T' B'
      k_fold
      dsimp only
      have hd1 : A.depth + 1 ≤ 800 := by omega
      have hd2 : A.depth + 1 ≤ 900 := by omega
      have hu1 : A.units + 3 ≤ 9000 := by omega
      have hqg : g.get? q = some (listOf vs.toArray nq) := Kg.get hq List.not_mem_nil notTbL hqn
      obtain ⟨hp0, hp1⟩ := first_ns hpf
      repeat' ((fail_if_success (with_reducible show wpAny _ _ (storeName _ _ _) _ _ _)); first | (with_reducible refine execs_one ?_; (try dsimp only)) | (((with_reducible show wpAny _ _ (call (Value.type "str") [Value.ref _]) _ _ _); k_dflt (refine str_N Bg (by k_asm) (by k_asm) (Around.frames_deeper hA) rfl rfl X T hd1 hu1 (flt_at (by k_asm) (by k_mem) (by k_mem) (by k_mem) nr ms at_ hvs) ?_)); intro h' t' tk' F' N'; (try dsimp only)) | (((with_reducible show wpAny _ _ (getAttr (Value.ref e) (PySem.Str.ofString "args") _) _ _ _); k_dflt (refine get_args (Xg.keeps (by k_asm : Fr g L' _ _).keep) (flt_at (by k_asm) (by k_mem) (by k_mem) (by k_mem) nr ms at_ hvs) ?_)); (try dsimp only)) | (((with_reducible show wpAny _ _ (getAttr (Value.ref e) (PySem.Str.ofString "section") _) _ _ _); k_dflt (refine get_attr (Xg.keeps (by k_asm : Fr g L' _ _).keep) (flt_at (by k_asm) (by k_mem) (by k_mem) (by k_mem) nr ms at_ hvs) (cf_all _ _).se (.head _) ?_)); intro vsection dsection; (try dsimp only)) | (((with_reducible show wpAny _ _ (newList _) _ _ _); k_dflt (refine newList_K (by k_asm) (by k_asm) ?_ (by rw [sizeLine_eq]; exact Nat.le_of_ble_eq_true rfl))); intro x' h' F' N' ltx; (try dsimp only)) | (walk1; (try dsimp only)) | (dsimp only; walk1) | (dsimp only [List.nil_append, List.cons_append]; walk1) | fail "no step")

      cases dsection
      refine storeX_C (by k_asm) (by k_asm) (by rfl) (.head (by intro y hy; simp only [List.mem_cons, List.not_mem_nil, or_false] at hy; rcases hy with rfl | rfl | rfl | rfl <;> assumption)) hoN ?_
      intro h6 o6 F6 N6 d6
      dsimp only
      repeat' ((fail_if_success (with_reducible show wpAny _ _ (exec (Stmt.Assign _ (PySem.Expr.ListComp _ _ _ _) _) _) _ _ _)); first | (with_reducible refine execs_one ?_; (try dsimp only)) | (walk1; (try dsimp only)) | (dsimp only; walk1) | (dsimp only [List.nil_append, List.cons_append]; walk1) | fail "no step")
      refine assign_comp_h (p := e) (h₀ := g) (m := fun y => if y = "err" then some (.ref e) else none) (Cx := fltCls (.ns x0)) (dx := some d) (ax := .ref t) (tb := tb3) rfl (by with_unfolding_all rfl) (by with_unfolding_all rfl) (by decide) (by rfl) (by decide) (by rfl) (by rfl) (by rfl) (by intro _; rfl) ?_
      have hqL : g.IsList q vs.toArray := ⟨_, hqg, rfl, _, rfl⟩
      repeat' ((fail_if_success (with_reducible show (∃ r : Addr, _))); first | (with_reducible refine execs_one ?_; (try dsimp only)) | (((with_reducible show wpAny _ _ (call (Value.builtin "len") [Value.ref _]) _ _ _); k_dflt (refine len_q (n := rs.length) (by k_asm) hqL hvl (by omega) ?_)); intro _ _; (try dsimp only)) | (((with_reducible show wpAny _ _ (call (Value.type "range") [Value.int _ _]) _ _ _); k_dflt (refine range1_rows (by k_asm) (by k_asm) ?_)); intro hR9 tkR tR uR vR hrR FR NR hkR; (try dsimp only)) | (walk1; (try dsimp only)) | (dsimp only; walk1) | (dsimp only [List.nil_append, List.cons_append]; walk1) | fail "no step")

      refine ⟨_, _, _, _, rs.length, _, rfl, FR, NR, by k_mem, hrR, (range_small rs.length (by omega)).1, (range_small rs.length (by omega)).2, by rw [sizeLine_eq]; omega, fun g9 => ?_⟩
      refine compRest_of (fun i ys => IntsAre ys (idx rs x0 i)) ?turn ?fin rs.length 0 [] (Nat.zero_add _) .nil
      case turn =>
        rintro i ys v I oI C oC D m₂ h tk E' hi hG ⟨ti, rfl⟩ hC hx F N off ne
        obtain ⟨r, hri⟩ : ∃ r, rs[i]? = some r := ⟨_, List.getElem?_eq_getElem hi⟩
        obtain ⟨a, rv, na, hva, har, hrd, hrok⟩ := hR.get hri
        have hal : g.IsList a rv.toArray := ⟨_, Kg.get har List.not_mem_nil notTbL (hnf _ _ _ har), rfl, _, rfl⟩
        simp only [Int.zero_add] at hx
        cases r with
        | head s0 =>
          cases hrd with
          | cons d1 hrd => cases hrd with
            | cons d2 hrd => cases hrd with
              | cons d3 hrd =>
                cases hrd; cases d1; cases d2; cases d3
                repeat' (first | (with_reducible refine execs_one ?_; (try dsimp only)) | (((with_reducible show wpAny _ _ (subscriptTail _ _ (Value.ref q) (Value.int _ _)) _ _ _); k_dflt (refine item_q (by k_asm) hqL hva (by omega) ?_)); (try dsimp only)) | (((with_reducible show wpAny _ _ (subscriptTail _ _ (Value.ref a) (Value.int _ _)) _ _ _); k_dflt (refine item_listL (hal.at fun o e => (by k_asm : Fr g L' _ _).keep a o e) (by decide) (by decide) rfl ?_)); (try dsimp only)) | (walk1; (try dsimp only)) | (dsimp only; walk1) | (dsimp only [List.nil_append, List.cons_append]; walk1) | fail "no step")

                exact PyProof.Rows.LCg.CompEnd.intro F N _ (fun _ hp => hp) off (by k_mem) ⟨rfl, look_no (no_head hri) hG⟩
        | opt o0 =>
          cases hrd with
          | cons d1 hrd => cases hrd with
            | cons d2 hrd => cases hrd with
              | cons d3 hrd =>
                cases hrd; cases d1; cases d2; cases d3
                repeat' (first | (with_reducible refine execs_one ?_; (try dsimp only)) | (((with_reducible show wpAny _ _ (subscriptTail _ _ (Value.ref q) (Value.int _ _)) _ _ _); k_dflt (refine item_q (by k_asm) hqL hva (by omega) ?_)); (try dsimp only)) | (((with_reducible show wpAny _ _ (subscriptTail _ _ (Value.ref a) (Value.int _ _)) _ _ _); k_dflt (refine item_listL (hal.at fun o e => (by k_asm : Fr g L' _ _).keep a o e) (by decide) (by decide) rfl ?_)); (try dsimp only)) | (walk1; (try dsimp only)) | (dsimp only; walk1) | (dsimp only [List.nil_append, List.cons_append]; walk1) | fail "no step")

                exact PyProof.Rows.LCg.CompEnd.intro F N _ (fun _ hp => hp) off (by k_mem) ⟨rfl, look_no (no_opt hri) hG⟩
        | look o0 s0 =>
          cases hrd with
          | cons d1 hrd => cases hrd with
            | cons d2 hrd => cases hrd with
              | cons d3 hrd =>
                cases hrd; cases d1; cases d2; cases d3
                repeat' (first | (with_reducible refine execs_one ?_; (try dsimp only)) | (((with_reducible show wpAny _ _ (subscriptTail _ _ (Value.ref q) (Value.int _ _)) _ _ _); k_dflt (refine item_q (by k_asm) hqL hva (by omega) ?_)); (try dsimp only)) | (((with_reducible show wpAny _ _ (subscriptTail _ _ (Value.ref a) (Value.int _ _)) _ _ _); k_dflt (refine item_listL (hal.at fun o e => (by k_asm : Fr g L' _ _).keep a o e) (by decide) (by decide) rfl ?_)); (try dsimp only)) | (walk1; (try dsimp only)) | (dsimp only; walk1) | (dsimp only [List.nil_append, List.cons_append]; walk1) | fail "no step")

                · exact PyProof.Rows.LCg.CompEnd.intro F N _ (fun _ hp => hp) off (by k_mem) ⟨rfl, look_yes hri (by assumption) hG⟩
                · exact PyProof.Rows.LCg.CompEnd.intro F N _ (fun _ hp => hp) off (by k_mem) ⟨rfl, look_no (no_look hri (by assumption)) hG⟩
      case fin =>
        intro ys hys
        obtain ⟨tl, htl⟩ := idx_first hp0 hp1
        rw [htl] at hys
        obtain ⟨ty, ys', rfl⟩ := ints_cons hys
        intro D h tk F N off
        dsimp only
        repeat' (first | (with_reducible refine execs_one ?_; (try dsimp only)) | (((with_reducible show wpAny _ _ (call (Value.type "str") [Value.ref _]) _ _ _); k_dflt (refine str_N Bg (by k_asm) (by k_asm) (Around.frames_deeper hA) rfl rfl X T hd1 hu1 (flt_at (by k_asm) (by k_mem) (by k_mem) (by k_mem) nr ms at_ hvs) ?_)); intro h' t' tk' F' N'; (try dsimp only)) | (((with_reducible show wpAny _ _ (getAttr (Value.ref e) (PySem.Str.ofString "args") _) _ _ _); k_dflt (refine get_args (Xg.keeps (by k_asm : Fr g L' _ _).keep) (flt_at (by k_asm) (by k_mem) (by k_mem) (by k_mem) nr ms at_ hvs) ?_)); (try dsimp only)) | (((with_reducible show wpAny _ _ (newList _) _ _ _); k_dflt (refine newList_K (by k_asm) (by k_asm) ?_ (by rw [sizeLine_eq]; exact Nat.le_of_ble_eq_true rfl))); intro x' h' F' N' ltx; (try dsimp only)) | (((with_reducible show wpAny _ _ (subscriptTail _ _ (Value.ref D) (Value.int _ _)) _ _ _); k_dflt (refine item_listL (News.isList (by k_asm : News g L' _ _) (by k_mem)) (by decide) (by decide) rfl ?_)); (try dsimp only)) | (walk1; (try dsimp only)) | (dsimp only; walk1) | (dsimp only [List.nil_append, List.cons_append]; walk1) | fail "no step")

        k_unfold
        refine wpAny_nameGoes_keeps (by rfl) F'.ns (by rfl) fun h13 v13 hn13 hs13 => ?_
        have F13 := F'.set hn13 hs13
        have N13 := N'.set hs13
        exact fault_end (s := s) (h1 p _ hpf) Kg Bg F13 N13 (by k_mem) (by push_cast; omega) rfl rfl (.int _ _) hvs nT
    | no x1 x0 =>
      have hqn := hnf q _ _ hq
      obtain ⟨nl, hnl, hdat⟩ := hR.data
      refine hb_miss b1 F3 X (fun F' hq => nameX_K F' X (topRead_of T) (by kernel_rfl) hq rfl rfl (by decide)) (c := .ref 79) (by kernel_rfl) ?_
      refine hb_miss b1 F3 X (fun F' hq => nameX_K F' X (topRead_of T) (by kernel_rfl) hq rfl rfl (by decide)) (c := .ref 99) (by kernel_rfl) ?_
      refine hb_miss b1 F3 X (fun F' hq => nameX_K F' X (topRead_of T) (by kernel_rfl) hq rfl rfl (by decide)) (c := .ref 59) (by kernel_rfl) ?_
      refine hb_hit rfl b1 b2 F3 X (fun F' hq => nameX_K F' X (topRead_of T) (by kernel_rfl) hq rfl rfl (by decide)) (c := .ref 118) (by kernel_rfl) hLe (l.filterMap (·.frame)) (fun h4 c1 c2 c3 c4 => ?_) rfl rfl
      obtain ⟨g, es, k, av, Fg, Ng, Bg, Xg, Tg, Kg, nr, ms, at_, hvs, nT, ne1, ne2, ne3, ne4⟩ := after_hit hA hst hff X T hL' rfl F' N' hoN hoR (ff1 _ rfl rfl) K2 FA hE hD hT Nb b3 c1 c2 c3 c4
      clear c1 c2 c3 c4 b1 b2 b3 b4 b5 F3 K2 FA ff1 F' N' hE hD hT ns2 fly st2 X' T' B'
      k_fold
      dsimp only
      have hd1 : A.depth + 1 ≤ 800 := by omega
      have hd2 : A.depth + 1 ≤ 900 := by omega
      have hu1 : A.units + 3 ≤ 9000 := by omega
      have hun2 : A.units + 3 + 64 < cLine := by rw [show cLine = 9900 from rfl]; omega
      have hqg : g.get? q = some (listOf vs.toArray nq) := Kg.get hq List.not_mem_nil notTbL hqn
      have hnlg : ∀ y ∈ nl, g.get? y.1 = some y.2 := fun y hy => by
        obtain ⟨e1, xs, k, e2⟩ := hnl y hy
        rw [e2] at e1 ⊢
        exact Kg.get e1 List.not_mem_nil notTbL (hnf _ _ _ e1)
      obtain ⟨hp0, hp1⟩ := first_no hpf
      have hjd : (rs.map fun r => Dat.list r.dats)[p]? = some (.list [.str "look", .str x1, .str x0]) := by rw [List.getElem?_map, hp0]; rfl
      have hjn : ∀ m, m < p → (rs.map fun r => Dat.list r.dats)[m]? ≠ some (.list [.str "look", .str x1, .str x0]) := fun m hm z => by
        rw [List.getElem?_map, Option.map_eq_some_iff] at z
        obtain ⟨r, hr, e⟩ := z
        injection e with e
        exact hp1 m hm (by rw [hr]; exact congrArg some (dats_inj (r' := .look x1 x0) e))
      have hokd : ∀ d ∈ rs.map (fun r => Dat.list r.dats), kqdOk 8 d = true := fun d hd => by
        obtain ⟨r, hr, rfl⟩ := List.mem_map.mp hd
        exact Row.okD (hR.oks r hr)
      repeat' (first | (with_reducible refine execs_one ?_; (try dsimp only)) | (((with_reducible show wpAny _ _ (call (Value.type "str") [Value.ref _]) _ _ _); k_dflt (refine str_N Bg (by k_asm) (by k_asm) (Around.frames_deeper hA) rfl rfl X T hd1 hu1 (flt_at (by k_asm) (by k_mem) (by k_mem) (by k_mem) nr ms at_ hvs) ?_)); intro h' t' tk' F' N'; (try dsimp only)) | (((with_reducible show wpAny _ _ (getAttr (Value.ref e) (PySem.Str.ofString "args") _) _ _ _); k_dflt (refine get_args (Xg.keeps (by k_asm : Fr g L' _ _).keep) (flt_at (by k_asm) (by k_mem) (by k_mem) (by k_mem) nr ms at_ hvs) ?_)); (try dsimp only)) | (((with_reducible show wpAny _ _ (getAttr (Value.ref e) (PySem.Str.ofString "option") _) _ _ _); k_dflt (refine get_attr (Xg.keeps (by k_asm : Fr g L' _ _).keep) (flt_at (by k_asm) (by k_mem) (by k_mem) (by k_mem) nr ms at_ hvs) (cf_all _ _).op (.head _) ?_)); intro voption doption; (try dsimp only)) | (((with_reducible show wpAny _ _ (getAttr (Value.ref e) (PySem.Str.ofString "section") _) _ _ _); k_dflt (refine get_attr (Xg.keeps (by k_asm : Fr g L' _ _).keep) (flt_at (by k_asm) (by k_mem) (by k_mem) (by k_mem) nr ms at_ hvs) (cf_all _ _).se (.tail _ (.head _)) ?_)); intro vsection dsection; (try dsimp only)) | (((with_reducible show wpAny _ _ (newList _) _ _ _); k_dflt (refine newList_K (by k_asm) (by k_asm) ?_ (by rw [sizeLine_eq]; exact Nat.le_of_ble_eq_true rfl))); intro x' h' F' N' ltx; (try dsimp only)) | (((with_reducible show wpAny _ _ (getMethod (Value.ref q) _ _) _ _ _); k_dflt (refine method_raw ((by k_asm : Fr g L' _ _).keep _ _ hqg) PySem.F.slot_list_index PySem.F.type_list_index ?_)); (try dsimp only)) | ((with_reducible show wpAny _ _ (call (Value.builtin "list.index") _) _ _ _); (try dsimp only [List.nil_append, List.cons_append]); (with_reducible show wpAny _ _ (call (Value.builtin "list.index") [_, _]) _ _ _); k_dflt (refine index_dat (by k_asm) ((by k_asm : Fr g L' _ _).keep _ _ hqg) hdat (fun y hy => (by k_asm : Fr g L' _ _).keep _ _ (hnlg y hy)) (.list (by k_mem) (.cons (.str _ _) (.cons (doption.mono fun _ z => absurd z List.not_mem_nil) (.cons (dsection.mono fun _ z => absurd z List.not_mem_nil) .nil)))) hokd (Row.okD (r := .look x1 x0) hfok) hjd hjn (by rw [List.length_map]; omega) hun2 ?_); intro ti; (try dsimp only)) | (walk1; (try dsimp only)) | (dsimp only; walk1) | (dsimp only [List.nil_append, List.cons_append]; walk1) | fail "no step")
      k_unfold
      refine wpAny_nameGoes_keeps (by rfl) F'.ns (by rfl) fun h13 v13 hn13 hs13 => ?_
      have F13 := F'.set hn13 hs13
      have N13 := N'.set hs13
      exact fault_end (s := s) (h1 p _ hpf) Kg Bg F13 N13 (by k_mem) (by push_cast; omega) rfl rfl (.int _ _) hvs nT

end Mine

end
section -- R1k
set_option maxRecDepth 100000
set_option maxHeartbeats 1000000
set_option linter.unusedVariables false
namespace Mine
open PySem PySem.W PyProof.Rows
theorem StOk.stay {st : St} {i : Nat} (h : StOk st i) (hi : 0 < i) : StOk st (i + 1) := ⟨h.nd, h.sx, h.ox, h.os, Nat.le_succ_of_le h.ol, Nat.le_succ_of_le h.sl, fun _ => h.nm hi⟩
/-- where the plain list's reading stands behind i rows -/
structure DueAt (rs : List Row) (i : Nat) (st : St) (kept : List Row) (lg : List (Nat × Flt)) : Prop where
  eq : dueT st0 1 rs = (kept ++ (dueT st (kept.length + 1) (rs.drop i)).1, lg ++ (dueT st (kept.length + 1) (rs.drop i)).2)
  ok : StOk st i
  ln : kept.length + lg.length = i
theorem DueAt.start (rs : List Row) : DueAt rs 0 st0 [] [] := ⟨rfl, .start, rfl⟩
theorem drop_at {rs : List Row} {i : Nat} {r : Row} (h : rs[i]? = some r) : rs.drop i = r :: rs.drop (i + 1) := by
  have hi : i < rs.length := (List.getElem?_eq_some_iff.mp h).1
  rw [List.drop_eq_getElem_cons hi]
  congr 1
  rw [List.getElem?_eq_getElem hi] at h
  injection h
theorem DueAt.keep {rs : List Row} {i : Nat} {st : St} {kept : List Row} {lg : List (Nat × Flt)} {r : Row} (h : DueAt rs i st kept lg) (hs : Starts rs) (hr : rs[i]? = some r) (ho : r.ok) (hf : fault st r = none) : DueAt rs (i + 1) (next st r) (kept ++ [r]) lg := by
  obtain ⟨e, k, l⟩ := h
  refine ⟨?_, k.step ho hf fun z => ?_, by rw [List.length_append, List.length_singleton]; omega⟩
  · rw [e, drop_at hr, dueT, hf, List.length_append, List.length_singleton]
    simp
  · obtain ⟨s, t, rfl⟩ := hs
    subst z
    injection hr with hr
    exact ⟨s, hr.symm⟩
theorem DueAt.log {rs : List Row} {i : Nat} {st : St} {kept : List Row} {lg : List (Nat × Flt)} {r : Row} {f : Flt} (h : DueAt rs i st kept lg) (hi : 0 < i) (hr : rs[i]? = some r) (hf : fault st r = some f) : DueAt rs (i + 1) st kept (lg ++ [(kept.length + 1, f)]) := by
  obtain ⟨e, k, l⟩ := h
  refine ⟨?_, k.stay hi, by rw [List.length_append, List.length_singleton]; omega⟩
  rw [e, drop_at hr, dueT, hf]
  simp
theorem DueAt.pos {rs : List Row} {i : Nat} {st : St} {kept : List Row} {lg : List (Nat × Flt)} {r : Row} {f : Flt} (h : DueAt rs i st kept lg) (hs : Starts rs) (hr : rs[i]? = some r) (hf : fault st r = some f) : 0 < i := by
  rcases Nat.eq_zero_or_pos i with z | z
  · subst z
    obtain ⟨s, t, rfl⟩ := hs
    injection hr with hr
    subst hr
    have e : st.secs = [] := List.eq_nil_of_length_eq_zero (Nat.le_zero.mp h.ok.sl)
    rw [fault, e] at hf
    simp at hf
  · exact z
theorem DueAt.done {rs : List Row} {st : St} {kept : List Row} {lg : List (Nat × Flt)} (h : DueAt rs rs.length st kept lg) : dueT st0 1 rs = (kept, lg) := by
  rw [h.eq, List.drop_length]
  simp [dueT]
def rowD (r : Row) : Dat := .list r.dats
def fltD (p : Nat × Flt) : Dat := .list (fltDats p.1 p.2)
def pairD (p : Str × Str) : Dat := .list [.str p.1, .str p.2]
/-- the words ahead of a duplicate -/
def placeT (n : Nat) : Str := preT n ++ (": " : Str)
theorem place_hi : ∀ k ∈ List.range 22, 9 < k + 1 → (((("While reading from 'a.ini' [line " : Str) ++ ("" : Str)) ++ Str.ofString (toString ((k : Int) + 1))) ++ ("]: " : Str)) = placeT (k + 1) := by decide +kernel
theorem place_lo : ∀ k ∈ List.range 22, ¬ 9 < k + 1 → (((("While reading from 'a.ini' [line " : Str) ++ (" " : Str)) ++ Str.ofString (toString ((k : Int) + 1))) ++ ("]: " : Str)) = placeT (k + 1) := by decide +kernel
theorem sec_split : (": section " : Str) = (": " : Str) ++ ("section " : Str) := by decide +kernel
theorem opt_split : (": option " : Str) = (": " : Str) ++ ("option " : Str) := by decide +kernel
theorem due_ds (n : Nat) (s : Str) : ((placeT n ++ ("section " : Str)) ++ quo s) ++ (" already exists" : Str) = wordsOf n (.ds s) := by
  rw [wordsOf, placeT, preT, sec_split]; simp only [app_assoc]
theorem due_do (n : Nat) (s o : Str) : ((((placeT n ++ ("option " : Str)) ++ quo o) ++ (" in section " : Str)) ++ quo s) ++ (" already exists" : Str) = wordsOf n (.dop s o) := by
  rw [wordsOf, placeT, preT, opt_split]; simp only [app_assoc]
theorem due_ns (n : Nat) (s : Str) : ("No section: " : Str) ++ quo s = wordsOf n (.ns s) := rfl
theorem due_no (n : Nat) (s o : Str) : ((("No option " : Str) ++ quo o) ++ (" in section: " : Str)) ++ quo s = wordsOf n (.no o s) := rfl
theorem placeT_len (n : Nat) (h : n < 100) : (placeT n).length ≤ 60 := by
  have h1 := lineT_len n h
  have h2 : ("While reading from 'a.ini'" : Str).length = 26 := by decide +kernel
  have h3 : (": " : Str).length = 2 := by decide +kernel
  rw [placeT, preT, app_len, app_len]
  omega
theorem pair_ok {s o : Str} (hs : s ∈ secTexts) (ho : o ∈ optTexts) : kqdOk 8 (pairD (s, o)) = true := by
  have a := ok_sec s hs
  have b := ok_opt o ho
  simp only [kqdOk, pairD, List.all_cons, List.all_nil, Bool.and_true] at a b ⊢
  simp [a, b]
theorem pair_mem {l : List (Str × Str)} {s o : Str} : pairD (s, o) ∈ l.map pairD ↔ (s, o) ∈ l := by
  constructor
  · intro h
    obtain ⟨⟨a, b⟩, hm, e⟩ := List.mem_map.mp h
    simp only [pairD, Dat.list.injEq, List.cons.injEq, Dat.str.injEq, and_true] at e
    obtain ⟨rfl, rfl⟩ := e
    exact hm
  · exact fun h => List.mem_map.mpr ⟨_, h, rfl⟩
end Mine
namespace Mine
open PySem PySem.W PyProof.Rows
section
variable {prog : Program} {w : World} {A : Around} {E : Value → Shared → Prop} {s : Shared} {h₀ : Heap} {L a : Addr} {news nl : List (Addr × Obj)} {vs : List Value} {n : Nat} {b : Bool} {Q : Value → Shared → Prop}
theorem len_led {k : Nat} (N : News h₀ L s.heap news) (hm : (a, listOf vs.toArray n) ∈ news) (e : vs.length = k) (hz : k ≤ 1000) (h : ∀ t j, Q (.int (k : Int) t) { s with toks := j }) : wpAny (model prog w) A (call (.builtin "len") [.ref a]) Q E s := by
  subst e
  refine len_list (News.isList N hm) (by rw [List.size_toArray]; omega) ?_
  rw [List.size_toArray]
  exact h _ _
open Classical in
theorem pair_in {x y : Str} {t1 t2 : Tok} {p : Addr} {opts : List (Str × Str)} (N : News h₀ L s.heap news) (hm : (a, listOf vs.toArray n) ∈ news) (hd : DatAll nl vs (opts.map pairD)) (sub : ∀ q ∈ nl, q ∈ news) (hp : (p, listOf [Value.str x t1, .str y t2].toArray 0) ∈ news) (ho : ∀ q ∈ opts, kqdOk 8 (pairD q) = true) (hx : kqdOk 8 (pairD (x, y)) = true)
    (hu : A.units + 64 < cLine) (hb : decide ((x, y) ∈ opts) = b) (h : Q (.bool b) s) : wpAny (model prog w) A (compareOp .In (.ref p) (.ref a)) Q E s := by
  refine kqd_isIn (n₂ := [(p, listOf [Value.str x t1, .str y t2].toArray 0)]) (d := pairD (x, y)) N hm rfl rfl hd sub (.list (.head _) (.cons (.str _ _) (.cons (.str _ _) .nil))) (fun q hq => by rw [List.mem_singleton.mp hq]; exact hp) (fun d hd => ?_) hx hu ?_
  · obtain ⟨q, hq, rfl⟩ := List.mem_map.mp hd
    exact ho q hq
  · subst hb
    by_cases hq : (x, y) ∈ opts
    · rw [decide_eq_true (pair_mem.mpr hq)]; rw [decide_eq_true hq] at h; exact h
    · rw [decide_eq_false fun z => hq (pair_mem.mp z)]; rw [decide_eq_false hq] at h; exact h
open Classical in
theorem pair_nin {x y : Str} {t1 t2 : Tok} {p : Addr} {opts : List (Str × Str)} (N : News h₀ L s.heap news) (hm : (a, listOf vs.toArray n) ∈ news) (hd : DatAll nl vs (opts.map pairD)) (sub : ∀ q ∈ nl, q ∈ news) (hp : (p, listOf [Value.str x t1, .str y t2].toArray 0) ∈ news) (ho : ∀ q ∈ opts, kqdOk 8 (pairD q) = true) (hx : kqdOk 8 (pairD (x, y)) = true)
    (hu : A.units + 64 < cLine) (hb : (!decide ((x, y) ∈ opts)) = b) (h : Q (.bool b) s) : wpAny (model prog w) A (compareOp .NotIn (.ref p) (.ref a)) Q E s := by
  refine kqd_notIn (n₂ := [(p, listOf [Value.str x t1, .str y t2].toArray 0)]) (d := pairD (x, y)) N hm rfl rfl hd sub (.list (.head _) (.cons (.str _ _) (.cons (.str _ _) .nil))) (fun q hq => by rw [List.mem_singleton.mp hq]; exact hp) (fun d hd => ?_) hx hu ?_
  · obtain ⟨q, hq, rfl⟩ := List.mem_map.mp hd
    exact ho q hq
  · subst hb
    by_cases hq : (x, y) ∈ opts
    · rw [decide_eq_true (pair_mem.mpr hq)]; rw [decide_eq_true hq] at h; exact h
    · rw [decide_eq_false fun z => hq (pair_mem.mp z)]; rw [decide_eq_false hq] at h; exact h
end
theorem StOk.okPairs {st : St} {i : Nat} (h : StOk st i) : ∀ q ∈ st.opts, kqdOk 8 (pairD q) = true := fun q hq => pair_ok (h.sx _ (h.os _ hq)) (h.ox _ hq)
theorem StOk.okSecs {st : St} {i : Nat} (h : StOk st i) : ∀ y ∈ st.secs, kqdOk 8 (.str y) = true := fun y hy => ok_sec y (h.sx _ hy)
end Mine
namespace Mine
open PySem PySem.W PyProof.Rows
theorem go_list {prog : Program} {w : World} {A : Around} {E : Value → Shared → Prop} {elts : List Expr} {x1} {pos : Pos} {l I : Addr} {i : Nat} {v : Value} {s : Shared} {Q : Unit → Shared → Prop} (hit : s.heap.IsListIter I l i) (hQ : Q () s) : wpAny (model prog w) A (letOwnedTupleGo (.Tuple elts x1 pos) (.ref I) v) Q E s := by
  cases v with
  | ref T => exact wpAny_letOwnedTupleGo_listiter hit hQ
  | _ => exact wpAny_pure hQ
end Mine
namespace Mine
open PySem PySem.W PyProof.Rows
theorem place_step {M : Model} {A : Around} {E : Value → Shared → Prop} {s : Shared} {env : Env} {st : Stmt} {g : Heap} {L : Addr} {m : Str → Option Value} {news : List (Addr × Obj)} {x : Str} {Q : Flow → Shared → Prop} (F : Fr g L s.heap m) (N : News g L s.heap news)
    (P : ∀ (Q' : Flow → Shared → Prop), (∀ h' t' k x', x' = x → Fr g L h' (fun y => if y = "place" then some (.str x' t') else m y) → News g L h' news → Q' .next { s with heap := h', toks := k }) → wpAny M A (exec st env) Q' E s)
    (K : ∀ h' t' k, Fr g L h' (fun y => if y = "place" then some (.str x t') else m y) → News g L h' news → Q .next { s with heap := h', toks := k }) : wpAny M A (exec st env) Q E s :=
  P Q fun h' t' k x' e F N => K h' t' k (e ▸ F) N
theorem num_len : ∀ k ∈ List.range 22, (Str.ofString (toString ((k : Int) + 1))).length ≤ 2 := by decide +kernel
structure Lits : Prop where
  a : ("While reading from 'a.ini' [line " : Str).length = 33
  b : ("" : Str).length = 0
  c : (" " : Str).length = 1
  d : ("]: " : Str).length = 3
  e : ("section " : Str).length = 8
  f : (" already exists" : Str).length = 15
  g : ("option " : Str).length = 7
  h : (" in section " : Str).length = 12
  i : ("No section: " : Str).length = 12
  j : ("No option " : Str).length = 10
  k : (" in section: " : Str).length = 13
theorem lits : Lits := ⟨by decide +kernel, by decide +kernel, by decide +kernel, by decide +kernel, by decide +kernel, by decide +kernel, by decide +kernel, by decide +kernel, by decide +kernel, by decide +kernel, by decide +kernel⟩
end Mine

end
section -- R1m
set_option maxRecDepth 100000
set_option maxHeartbeats 1000000
set_option linter.unusedVariables false
namespace Mine
open PySem PySem.W PyProof.Rows
/-- the ledger of the plain list's reading -/
structure DueL (S : Heap) (rs : List Row) (i : Nat) (st : St) (kept : List Row) (lg : List (Nat × Flt)) (K G C O : Addr) (kv gv cv ov : List Value) (tl nl : List (Addr × Obj)) (m : Str → Option Value) : Prop where
  here : DueAt rs i st kept lg
  kd : DatAll nl kv (kept.map rowD)
  gd : DatAll nl gv (lg.map fltD)
  cd : DatAll [] cv (st.secs.map Dat.str)
  od : DatAll nl ov (st.opts.map pairD)
  sub : ∀ p ∈ nl, p ∈ tl
  kt : ∀ p ∈ tl, @Ne Nat p.1 K
  gt : ∀ p ∈ tl, @Ne Nat p.1 G
  ct : ∀ p ∈ tl, @Ne Nat p.1 C
  ot : ∀ p ∈ tl, @Ne Nat p.1 O
  ne : @Ne Nat K G ∧ @Ne Nat K C ∧ @Ne Nat K O ∧ @Ne Nat G C ∧ @Ne Nat G O ∧ @Ne Nat C O
  fk : m "kept" = some (.ref K)
  fg : m "log" = some (.ref G)
  fc : m "sections" = some (.ref C)
  fo : m "options" = some (.ref O)
  fn : ∃ t, m "name" = some (.str st.name t)
def DueJ (S : Heap) (rs : List Row) (i : Nat) (m : Str → Option Value) (nx : List (Addr × Obj)) : Prop :=
  ∃ st kept lg K G C O kv gv cv ov nk ng nc no tl nl, nx = (K, listOf kv.toArray nk) :: (G, listOf gv.toArray ng) :: (C, listOf cv.toArray nc) :: (O, listOf ov.toArray no) :: tl ∧ DueL S rs i st kept lg K G C O kv gv cv ov tl nl m
theorem place_hi2 : ∀ k ∈ List.range 22, 9 < k + 1 → ((("While reading from 'a.ini' [line " : Str) ++ Str.ofString (toString ((k : Int) + 1))) ++ ("]: " : Str)) = placeT (k + 1) := by decide +kernel
theorem place_lo2 : ∀ k ∈ List.range 22, ¬ 9 < k + 1 → ((("While reading from 'a.ini' [line  " : Str) ++ Str.ofString (toString ((k : Int) + 1))) ++ ("]: " : Str)) = placeT (k + 1) := by decide +kernel
/-- newer than the turn's five -/
def Abv (x I K G C O : Addr) : Prop := @Ne Nat x I ∧ @Ne Nat x K ∧ @Ne Nat x G ∧ @Ne Nat x C ∧ @Ne Nat x O
theorem Abv.mk {x I K G C O : Addr} {o1 o2 o3 o4 o5 : Obj} {news : List (Addr × Obj)} (h : ∀ p ∈ news, p.1 < x) (h1 : (I, o1) ∈ news) (h2 : (K, o2) ∈ news) (h3 : (G, o3) ∈ news) (h4 : (C, o4) ∈ news) (h5 : (O, o5) ∈ news) : Abv x I K G C O :=
  ⟨fun e => absurd (h _ h1) (e ▸ Nat.lt_irrefl _), fun e => absurd (h _ h2) (e ▸ Nat.lt_irrefl _), fun e => absurd (h _ h3) (e ▸ Nat.lt_irrefl _), fun e => absurd (h _ h4) (e ▸ Nat.lt_irrefl _), fun e => absurd (h _ h5) (e ▸ Nat.lt_irrefl _)⟩
theorem Abv.nI {x I K G C O : Addr} (h : Abv x I K G C O) : @Ne Nat x I := h.1
theorem Abv.nK {x I K G C O : Addr} (h : Abv x I K G C O) : @Ne Nat x K := h.2.1
theorem Abv.nG {x I K G C O : Addr} (h : Abv x I K G C O) : @Ne Nat x G := h.2.2.1
theorem Abv.nC {x I K G C O : Addr} (h : Abv x I K G C O) : @Ne Nat x C := h.2.2.2.1
theorem Abv.nO {x I K G C O : Addr} (h : Abv x I K G C O) : @Ne Nat x O := h.2.2.2.2
/-- the names of the turn's end -/
structure DueM (K G C O : Addr) (n : Str) (m : Str → Option Value) : Prop where
  fk : m "kept" = some (.ref K)
  fg : m "log" = some (.ref G)
  fc : m "sections" = some (.ref C)
  fo : m "options" = some (.ref O)
  fn : ∃ t, m "name" = some (.str n t)
section
variable {S : Heap} {L : Addr} {rs : List Row} {i : Nat} {st : St} {kept : List Row} {lg : List (Nat × Flt)} {I K G C O : Addr} {oI : Obj} {kv gv cv ov : List Value} {nk ng nc no : Nat} {tl nl new NW : List (Addr × Obj)} {m₁ m' : Str → Option Value} {h' : Heap} {tk : Nat} {s₁ : Shared}
theorem DueL.upK (J : DueL S rs i st kept lg K G C O kv gv cv ov tl nl m₁) (hI : @Ne Nat I K) (o o' oG oC oO : Obj) : Upd K o o' ((I, oI) :: (K, o) :: (G, oG) :: (C, oC) :: (O, oO) :: tl) ((I, oI) :: (K, o') :: (G, oG) :: (C, oC) :: (O, oO) :: tl) := by
  obtain ⟨n1, n2, n3, n4, n5, n6⟩ := J.ne
  refine .tail hI (.head fun p hp => ?_)
  rcases List.mem_cons.mp hp with rfl | hp
  · exact n1.symm
  rcases List.mem_cons.mp hp with rfl | hp
  · exact n2.symm
  rcases List.mem_cons.mp hp with rfl | hp
  · exact n3.symm
  exact J.kt p hp
theorem DueL.upG (J : DueL S rs i st kept lg K G C O kv gv cv ov tl nl m₁) (hI : @Ne Nat I G) (o o' oK oC oO : Obj) : Upd G o o' ((I, oI) :: (K, oK) :: (G, o) :: (C, oC) :: (O, oO) :: tl) ((I, oI) :: (K, oK) :: (G, o') :: (C, oC) :: (O, oO) :: tl) := by
  obtain ⟨n1, n2, n3, n4, n5, n6⟩ := J.ne
  refine .tail hI (.tail n1 (.head fun p hp => ?_))
  rcases List.mem_cons.mp hp with rfl | hp
  · exact n4.symm
  rcases List.mem_cons.mp hp with rfl | hp
  · exact n5.symm
  exact J.gt p hp
theorem DueL.upC (J : DueL S rs i st kept lg K G C O kv gv cv ov tl nl m₁) (hI : @Ne Nat I C) (o o' oK oG oO : Obj) : Upd C o o' ((I, oI) :: (K, oK) :: (G, oG) :: (C, o) :: (O, oO) :: tl) ((I, oI) :: (K, oK) :: (G, oG) :: (C, o') :: (O, oO) :: tl) := by
  obtain ⟨n1, n2, n3, n4, n5, n6⟩ := J.ne
  refine .tail hI (.tail n2 (.tail n4 (.head fun p hp => ?_)))
  rcases List.mem_cons.mp hp with rfl | hp
  · exact n6.symm
  exact J.ct p hp
theorem DueL.upO (J : DueL S rs i st kept lg K G C O kv gv cv ov tl nl m₁) (hI : @Ne Nat I O) (o o' oK oG oC : Obj) : Upd O o o' ((I, oI) :: (K, oK) :: (G, oG) :: (C, oC) :: (O, o) :: tl) ((I, oI) :: (K, oK) :: (G, oG) :: (C, oC) :: (O, o') :: tl) := by
  obtain ⟨n1, n2, n3, n4, n5, n6⟩ := J.ne
  exact .tail hI (.tail n3 (.tail n5 (.tail n6 (.head fun p hp => J.ot p hp))))
theorem due_end {st' : St} {kept' : List Row} {lg' : List (Nat × Flt)} {kv' gv' cv' ov' : List Value} {nk' ng' nc' no' : Nat} (J : DueL S rs i st kept lg K G C O kv gv cv ov tl nl m₁)
    (off : ∀ p ∈ (K, listOf kv.toArray nk) :: (G, listOf gv.toArray ng) :: (C, listOf cv.toArray nc) :: (O, listOf ov.toArray no) :: tl, p.1 ≠ I)
    (F : Fr S L h' m') (N : News S L h' NW) (eN : NW = new ++ (I, oI) :: (K, listOf kv'.toArray nk') :: (G, listOf gv'.toArray ng') :: (C, listOf cv'.toArray nc') :: (O, listOf ov'.toArray no') :: tl)
    (ab : ∀ p ∈ new, Abv p.1 I K G C O) (here : DueAt rs (i + 1) st' kept' lg')
    (kd : DatAll (new ++ nl) kv' (kept'.map rowD)) (gd : DatAll (new ++ nl) gv' (lg'.map fltD)) (cd : DatAll [] cv' (st'.secs.map Dat.str)) (od : DatAll (new ++ nl) ov' (st'.opts.map pairD)) (M : DueM K G C O st'.name m') :
    PostT S L (DueJ S rs (i + 1)) I oI s₁ .next { s₁ with heap := h', toks := tk } := by
  subst eN
  have mn : ∀ p, p ∈ new ++ nl → p ∈ new ++ tl := fun p hp => (List.mem_append.mp hp).elim (fun z => List.mem_append.mpr (.inl z)) fun z => List.mem_append.mpr (.inr (J.sub p z))
  refine ⟨rfl, h', tk, m', (K, listOf kv'.toArray nk') :: (G, listOf gv'.toArray ng') :: (C, listOf cv'.toArray nc') :: (O, listOf ov'.toArray no') :: (new ++ tl), rfl, F, fun p hp => N p ?_, fun p hp => ?_, st', kept', lg', K, G, C, O, kv', gv', cv', ov', nk', ng', nc', no', new ++ tl, new ++ nl, rfl, here, kd, gd, cd, od, mn, ?_, ?_, ?_, ?_, J.ne, M.fk, M.fg, M.fc, M.fo, M.fn⟩
  · simp only [List.mem_cons, List.mem_append] at hp ⊢
    rcases hp with h | h | h | h | h | h | h <;> simp [h]
  · simp only [List.mem_cons, List.mem_append] at hp
    rcases hp with rfl | rfl | rfl | rfl | h | h
    · exact off (K, listOf kv.toArray nk) (.head _)
    · exact off (G, listOf gv.toArray ng) (.tail _ (.head _))
    · exact off (C, listOf cv.toArray nc) (.tail _ (.tail _ (.head _)))
    · exact off (O, listOf ov.toArray no) (.tail _ (.tail _ (.tail _ (.head _))))
    · exact (ab p h).1
    · exact off p (.tail _ (.tail _ (.tail _ (.tail _ h))))
  · exact fun p hp => (List.mem_append.mp hp).elim (fun z => (ab p z).2.1) (J.kt p)
  · exact fun p hp => (List.mem_append.mp hp).elim (fun z => (ab p z).2.2.1) (J.gt p)
  · exact fun p hp => (List.mem_append.mp hp).elim (fun z => (ab p z).2.2.2.1) (J.ct p)
  · exact fun p hp => (List.mem_append.mp hp).elim (fun z => (ab p z).2.2.2.2) (J.ot p)
/-- the row goes -/
theorem due_keep {r : Row} {D : Addr} {rv : List Value} {cv' ov' : List Value} {oC oO : Obj} {nk' ng' nc' no' : Nat} (J : DueL S rs i st kept lg K G C O kv gv cv ov tl nl m₁)
    (off : ∀ p ∈ (K, listOf kv.toArray nk) :: (G, listOf gv.toArray ng) :: (C, listOf cv.toArray nc) :: (O, listOf ov.toArray no) :: tl, p.1 ≠ I)
    (hst : Starts rs) (hr : rs[i]? = some r) (ho : r.ok) (hf : fault st r = none) (hrv : DatAll [] rv r.dats)
    (F : Fr S L h' m') (N : News S L h' NW) (eN : NW = ((D, listOf rv.toArray 0) :: new) ++ (I, oI) :: (K, listOf (kv.toArray.push (Value.ref D)) nk') :: (G, listOf gv.toArray ng') :: (C, oC) :: (O, oO) :: tl) (eC : oC = listOf cv'.toArray nc') (eO : oO = listOf ov'.toArray no')
    (aD : Abv D I K G C O) (ab : ∀ p ∈ new, Abv p.1 I K G C O) (cd : DatAll [] cv' ((next st r).secs.map Dat.str)) (od : DatAll (new ++ nl) ov' ((next st r).opts.map pairD)) (M : DueM K G C O (next st r).name m') :
    PostT S L (DueJ S rs (i + 1)) I oI s₁ .next { s₁ with heap := h', toks := tk } := by
  rw [List.push_toArray] at eN
  subst eC eO
  refine due_end J off F N eN ?_ (J.here.keep hst hr ho hf) ?_ (J.gd.mono fun p hp => List.mem_append.mpr (.inr hp)) cd (od.mono fun p hp => .tail _ hp) M
  · intro p hp
    rcases List.mem_cons.mp hp with rfl | hp
    · exact aD
    · exact ab p hp
  · rw [List.map_append]
    exact DatAll.append (J.kd.mono fun p hp => List.mem_append.mpr (.inr hp)) (.one (.list (.head _) (hrv.mono fun _ z => absurd z List.not_mem_nil)))
/-- the row does not go -/
theorem due_log {r : Row} {f : Flt} {X T : Addr} {tv : List Value} {kd wd : Str} {t1 t2 : Tok} {vl : Value} {nk' ng' nc' no' : Nat} (J : DueL S rs i st kept lg K G C O kv gv cv ov tl nl m₁)
    (off : ∀ p ∈ (K, listOf kv.toArray nk) :: (G, listOf gv.toArray ng) :: (C, listOf cv.toArray nc) :: (O, listOf ov.toArray no) :: tl, p.1 ≠ I)
    (hst : Starts rs) (hr : rs[i]? = some r) (hf : fault st r = some f) (htv : DatAll [] tv (argsOf (kept.length + 1) f)) (ek : kd = kindT f) (ew : wd = wordsOf (kept.length + 1) f) (el : DatIn [] vl (.int (lineOf (kept.length + 1) f)))
    (F : Fr S L h' m') (N : News S L h' NW) (eN : NW = ((X, listOf [Value.str kd t1, .str wd t2, .ref T, vl].toArray 0) :: (T, ({ cls := .type "tuple", data := .seq tv.toArray } : Obj)) :: new) ++ (I, oI) :: (K, listOf kv.toArray nk') :: (G, listOf (gv.toArray.push (Value.ref X)) ng') :: (C, listOf cv.toArray nc') :: (O, listOf ov.toArray no') :: tl)
    (aX : Abv X I K G C O) (aT : Abv T I K G C O) (ab : ∀ p ∈ new, Abv p.1 I K G C O) (M : DueM K G C O st.name m') :
    PostT S L (DueJ S rs (i + 1)) I oI s₁ .next { s₁ with heap := h', toks := tk } := by
  rw [List.push_toArray] at eN
  refine due_end J off F N eN ?_ (J.here.log (J.here.pos hst hr hf) hr hf) (J.kd.mono fun p hp => List.mem_append.mpr (.inr hp)) ?_ J.cd (J.od.mono fun p hp => List.mem_append.mpr (.inr hp)) M
  · intro p hp
    rcases List.mem_cons.mp hp with rfl | hp
    · exact aX
    · rcases List.mem_cons.mp hp with rfl | hp
      · exact aT
      · exact ab p hp
  · subst ek ew
    rw [List.map_append]
    refine DatAll.append (J.gd.mono fun p hp => List.mem_append.mpr (.inr hp)) (.one (.list (.head _) (.cons (.str _ _) (.cons (.str _ _) (.cons (.tuple (.tail _ (.head _)) (htv.mono fun _ z => absurd z List.not_mem_nil)) (.cons (el.mono fun _ z => absurd z List.not_mem_nil) .nil))))))
theorem push_obj {v : List Value} {x : Value} {n : Nat} : listOf (v.toArray.push x) n = listOf (v ++ [x]).toArray n := by rw [List.push_toArray]
end
end Mine

end
section -- R1d2
open PySem PySem.W PyProof.Rows Mine
set_option maxRecDepth 100000
set_option maxHeartbeats 1000000
set_option linter.unusedVariables false
namespace Mine

local macro_rules | `(tactic| k_all) => `(tactic| assumption)
theorem due_code {prog : Program} {w : World} {base : Heap} {l : List Env} {mg mb : Str → Option Value} {loose : List Str} {mean : ExcName → Option Value} {s : Shared} {R : Result → Shared → Prop} {A : Around} {rs : List Row} {vs : List Value} {q : Addr} {nq : Nat} (hR : RowsAll s.heap vs rs) (hq : s.heap.get? q = some (listOf vs.toArray nq)) (hlen : rs.length ≤ 22)
    (hst : base.StaysIn s.heap) (hff : s.heap.FunFrames base l) (X : (hd.heap_39 w.params).In base) (T : Top hd.view_39 loose mean mg mb base) (hA : A.frames = some l) (hdp : A.depth ≤ 700) (hun : A.units ≤ 7000) (hh : A.handled = none) (hst0 : Starts rs)
    (h : ∀ h' D DK DL kv gv nk ng nl tk', (∀ b o, s.heap.get? b = some o → h'.get? b = some o) → h'.get? D = some (listOf [Value.ref DK, .ref DL].toArray 0) → h'.get? DK = some (listOf kv.toArray nk) → h'.get? DL = some (listOf gv.toArray ng) → DatAll nl kv ((dueT st0 1 rs).1.map rowD) → DatAll nl gv ((dueT st0 1 rs).2.map fltD) →
      (∀ p ∈ nl, h'.get? p.1 = some p.2 ∧ s.heap.get? p.1 = none) → s.heap.get? D = none → s.heap.get? DK = none → s.heap.get? DL = none → R (.ok (.ret (.ref D))) { s with heap := h', toks := tk' }) :
    codeAny (model prog w) A (.call (.ref 153) ⟨[.ref q], []⟩) R s := by
  have hvl := hR.len
  have hun2 : (A.units + 3) + 64 < cLine := by rw [show cLine = 9900 from rfl]; omega
  w_on
  refine' enter0 (binds := [("rows", .ref q)]) hA hst hff X T ?k6 ?k7 ?k8 ?k9 ?kB ?_ ?c2 ?c3 ?c4 ?c5
  (case k6 => k_dflt k_is); (case k7 => k_dflt k_is); (case k8 => exact Nat.lt_of_le_of_lt hdp (by decide)); (case k9 => exact BindsTo.of_eq rfl); (case c5 => decide); (case kB => exact locs rfl); (case c2 => exact rfl); (case c3 => exact rfl); (case c4 => exact rfl)
  intro L' h₁ F' N' B' X' T'
  k_fold
  have hqL : s.heap.IsList q vs.toArray := ⟨_, hq, rfl, _, rfl⟩
  repeat' ((fail_if_success (with_reducible show wpAny _ _ (exec (Stmt.For _ _ _ _ _) _) _ _ _)); first | (with_reducible refine execs_one ?_; (try dsimp only)) | (((with_reducible show wpAny _ _ (newList _) _ _ _); k_dflt (refine newList_K (by k_asm) (by k_asm) ?_ (by rw [sizeLine_eq]; exact Nat.le_of_ble_eq_true rfl))); intro x' h' F' N' ltx; (try dsimp only)) | (walk1; (try dsimp only)) | (dsimp only; walk1) | (dsimp only [List.nil_append, List.cons_append]; walk1) | fail "no step")
  refine For_invT s.heap ?_ (by intro _; rfl)
  repeat' ((fail_if_success (with_reducible show wpAny _ _ (pyIter _) _ _ _)); first | (with_reducible refine execs_one ?_; (try dsimp only)) | (walk1; (try dsimp only)) | (dsimp only; walk1) | (dsimp only [List.nil_append, List.cons_append]; walk1) | fail "no step")
  rename_i K h1 ltK h2 k2 G h3 ltG h4 k4 C h5 ltC h6 k6 h7 k7 h8 F8 N8
  have nGK := ltG _ (.head _)
  have nCG := ltC _ (.head _)
  have nCK := ltC _ (.tail _ (.head _))
  have nOC := ltx _ (.head _)
  have nOG := ltx _ (.tail _ (.head _))
  have nOK := ltx _ (.tail _ (.tail _ (.head _)))
  refine iter_tupGL (DueJ s.heap rs) hh hqL F8 (news := (K, listOf #[] 0) :: (G, listOf #[] 0) :: (C, listOf #[] 0) :: (x', listOf #[] 0) :: []) (fun p hp => N8 p ?pm) ?j0 (fun _ _ _ _ _ a b => go_list a b) ?turn ?done
  case pm =>
    simp only [List.mem_cons, List.not_mem_nil, or_false] at hp ⊢
    rcases hp with rfl | rfl | rfl | rfl <;> simp
  case j0 =>
    exact ⟨st0, [], [], K, G, C, x', [], [], [], [], 0, 0, 0, 0, [], [], rfl, ⟨.start rs, .nil, .nil, .nil, .nil, (fun _ z => absurd z List.not_mem_nil), (fun _ z => absurd z List.not_mem_nil), (fun _ z => absurd z List.not_mem_nil), (fun _ z => absurd z List.not_mem_nil), (fun _ z => absurd z List.not_mem_nil),
      ⟨Nat.ne_of_lt nGK, Nat.ne_of_lt nCK, Nat.ne_of_lt nOK, Nat.ne_of_lt nCG, Nat.ne_of_lt nOG, Nat.ne_of_lt nOC⟩, rfl, rfl, rfl, rfl, _, rfl⟩⟩
  case turn =>
    clear F8 N8 nGK nCG nCK nOC nOG nOK ltG ltC ltx ltK
    rintro i v m₁ news₁ s₁ I oI hvi hIc hIoff ⟨st, kept, lg, K, G, C, O, kv, gv, cv, ov, nk, ng, nc, no, tl, nl, rfl, J⟩ F3 N3
    replace F3 : Fr s.heap L' s₁.heap m₁ := F3
    replace N3 : News s.heap L' s₁.heap ((I, oI) :: (K, listOf kv.toArray nk) :: (G, listOf gv.toArray ng) :: (C, listOf cv.toArray nc) :: (O, listOf ov.toArray no) :: tl) := N3
    have hi : i < rs.length := hvl ▸ (List.getElem?_eq_some_iff.mp hvi).1
    obtain ⟨r, hri⟩ : ∃ r, rs[i]? = some r := ⟨_, List.getElem?_eq_getElem hi⟩
    obtain ⟨a, rv, na, hva, har, hrd, hrok⟩ := hR.get hri
    rw [hva] at hvi
    injection hvi with hvi
    subst hvi
    have J0 := J
    obtain ⟨here, kd, gd, cd, od, sub, kt, gt, ct, ot, ⟨ne1, ne2, ne3, ne4, ne5, ne6⟩, fk, fg, fc, fo, tn0, fn⟩ := J
    have hal : s.heap.IsList a rv.toArray := ⟨_, har, rfl, _, rfl⟩
    have hkl : kv.length = kept.length := by rw [kd.length, List.length_map]
    have hgl : gv.length = lg.length := by rw [gd.length, List.length_map]
    have hcl : cv.length = st.secs.length := by rw [cd.length, List.length_map]
    have hol : ov.length = st.opts.length := by rw [od.length, List.length_map]
    have hln := here.ln
    have hsl := here.ok.sl
    have hoo := here.ok.ol
    have hIK : @Ne Nat I K := Ne.symm (hIoff _ (.head _))
    have hIG : @Ne Nat I G := Ne.symm (hIoff _ (.tail _ (.head _)))
    have hIC : @Ne Nat I C := Ne.symm (hIoff _ (.tail _ (.tail _ (.head _))))
    have hIO : @Ne Nat I O := Ne.symm (hIoff _ (.tail _ (.tail _ (.tail _ (.head _)))))
    obtain ⟨z1, z2, z3, z4, z5, z6, z7, z8, z9, z10, z11⟩ := lits
    have lnum := num_len kept.length (List.mem_range.mpr (by omega))
    obtain ⟨hh1, gens1, drawn1, toks1, os1⟩ := s₁
    have uK := DueL.upK J0 hIK (oI := oI)
    have uG := DueL.upG J0 hIG (oI := oI)
    have uC := DueL.upC J0 hIC (oI := oI)
    have uO := DueL.upO J0 hIO (oI := oI)
    have hpl := placeT_len (kept.length + 1) (by omega)
    cases r with
    | head s0 =>
      cases hrd with
      | cons d1 hrd => cases hrd with
        | cons d2 hrd => cases hrd with
          | cons d3 hrd =>
            cases hrd; cases d1; cases d2; cases d3
            have q0 : s0 ∈ secTexts := hrok
            have q1 : s0 ∈ secTexts ++ optTexts := List.mem_append.mpr (.inl hrok)
            have w1 := (len_sec s0 hrok).2
            repeat' ((fail_if_success (with_reducible show wpAny _ _ (exec (Stmt.Assign [PySem.Expr.Name (PySem.Str.ofString "place") _] _ _) _) _ _ _)); first | (with_reducible refine execs_one ?_; (try dsimp only)) | (((first | (with_reducible show wpAny _ _ (eval (PySem.Expr.Name (PySem.Str.ofString "kept") _) _) _ _ _) | (with_reducible show wpAny _ _ (eval (PySem.Expr.Name (PySem.Str.ofString "log") _) _) _ _ _) | (with_reducible show wpAny _ _ (eval (PySem.Expr.Name (PySem.Str.ofString "sections") _) _) _ _ _) | (with_reducible show wpAny _ _ (eval (PySem.Expr.Name (PySem.Str.ofString "options") _) _) _ _ _) | (with_reducible show wpAny _ _ (eval (PySem.Expr.Name (PySem.Str.ofString "name") _) _) _ _ _) | (with_reducible show wpAny _ _ (eval (PySem.Expr.Name (PySem.Str.ofString "first") _) _) _ _ _) | (with_reducible show wpAny _ _ (eval (PySem.Expr.Name (PySem.Str.ofString "second") _) _) _ _ _) | (with_reducible show wpAny _ _ (eval (PySem.Expr.Name (PySem.Str.ofString "line") _) _) _ _ _) | (with_reducible show wpAny _ _ (eval (PySem.Expr.Name (PySem.Str.ofString "place") _) _) _ _ _) | (with_reducible show wpAny _ _ (eval (PySem.Expr.Name (PySem.Str.ofString "what") _) _) _ _ _) | (with_reducible show wpAny _ _ (eval (PySem.Expr.Name (PySem.Str.ofString "fault") _) _) _ _ _) | (with_reducible show wpAny _ _ (eval (PySem.Expr.Name (PySem.Str.ofString "words") _) _) _ _ _)); k_dflt (refine ld (by k_asm) (by first | assumption | exact rfl) ?_)); (try dsimp only)) | (((with_reducible show wpAny _ _ (assign (PySem.Expr.Tuple _ _ _) _ (Value.ref _)) _ _ _); k_dflt (refine unpackL (by k_asm) (by k_asm) hh (hal.at fun o e => (by k_asm : Fr s.heap L' _ _).keep a o e) (by rfl) (by rfl) ?_)); intro hU' FU NU; (try dsimp only)) | (((with_reducible show wpAny _ _ (call (Value.builtin "len") [Value.ref K]) _ _ _); k_dflt (refine len_led (by k_asm) (by k_mem) hkl (by omega) ?_)); intro tn kn; (try dsimp only)) | (((with_reducible show wpAny _ _ (newList _) _ _ _); k_dflt (refine newList_K (by k_asm) (by k_asm) ?_ (by rw [sizeLine_eq]; exact Nat.le_of_ble_eq_true rfl))); intro x' h' F' N' ltx; (try dsimp only)) | (walk1; (try dsimp only)) | (dsimp only; walk1) | (dsimp only [List.nil_append, List.cons_append]; walk1) | fail "no step")
            refine place_step (x := placeT (kept.length + 1)) (by k_asm) (by k_asm) ?P ?KK
            case P =>
              intro Q' hQ'
              repeat' (first | (with_reducible refine execs_one ?_; (try dsimp only)) | (((first | (with_reducible show wpAny _ _ (eval (PySem.Expr.Name (PySem.Str.ofString "kept") _) _) _ _ _) | (with_reducible show wpAny _ _ (eval (PySem.Expr.Name (PySem.Str.ofString "log") _) _) _ _ _) | (with_reducible show wpAny _ _ (eval (PySem.Expr.Name (PySem.Str.ofString "sections") _) _) _ _ _) | (with_reducible show wpAny _ _ (eval (PySem.Expr.Name (PySem.Str.ofString "options") _) _) _ _ _) | (with_reducible show wpAny _ _ (eval (PySem.Expr.Name (PySem.Str.ofString "name") _) _) _ _ _) | (with_reducible show wpAny _ _ (eval (PySem.Expr.Name (PySem.Str.ofString "first") _) _) _ _ _) | (with_reducible show wpAny _ _ (eval (PySem.Expr.Name (PySem.Str.ofString "second") _) _) _ _ _) | (with_reducible show wpAny _ _ (eval (PySem.Expr.Name (PySem.Str.ofString "line") _) _) _ _ _) | (with_reducible show wpAny _ _ (eval (PySem.Expr.Name (PySem.Str.ofString "place") _) _) _ _ _) | (with_reducible show wpAny _ _ (eval (PySem.Expr.Name (PySem.Str.ofString "what") _) _) _ _ _) | (with_reducible show wpAny _ _ (eval (PySem.Expr.Name (PySem.Str.ofString "fault") _) _) _ _ _) | (with_reducible show wpAny _ _ (eval (PySem.Expr.Name (PySem.Str.ofString "words") _) _) _ _ _)); k_dflt (refine ld (by k_asm) (by first | assumption | exact rfl) ?_)); (try dsimp only)) | (((with_reducible show wpAny _ _ (binaryOp Operator.Add (Value.str _ _) (Value.str _ _)) _ _ _); k_dflt (refine add_str ?_ (by simp only [app_len]; rw [sizeLine_eq]; omega))); intro _ _; (try dsimp only)) | (walk1; (try dsimp only)) | (dsimp only; walk1) | (dsimp only [List.nil_append, List.cons_append]; walk1) | fail "no step")
              all_goals first
                | exact hQ' _ _ _ _ (place_hi2 kept.length (List.mem_range.mpr (by omega)) (by omega)) (by assumption) (by assumption)
                | exact hQ' _ _ _ _ (place_lo2 kept.length (List.mem_range.mpr (by omega)) (by omega)) (by assumption) (by assumption)
            case KK =>
              intro h' t' k F' N'
              dsimp only
              by_cases hs1 : s0 ∈ st.secs
              · have ho : decide (s0 ∈ st.secs) = true := decide_eq_true hs1
                have hfl : fault st (.head s0) = some (.ds s0) := by rw [fault, if_pos hs1]
                repeat' (first | (with_reducible refine execs_one ?_; (try dsimp only)) | (((first | (with_reducible show wpAny _ _ (eval (PySem.Expr.Name (PySem.Str.ofString "kept") _) _) _ _ _) | (with_reducible show wpAny _ _ (eval (PySem.Expr.Name (PySem.Str.ofString "log") _) _) _ _ _) | (with_reducible show wpAny _ _ (eval (PySem.Expr.Name (PySem.Str.ofString "sections") _) _) _ _ _) | (with_reducible show wpAny _ _ (eval (PySem.Expr.Name (PySem.Str.ofString "options") _) _) _ _ _) | (with_reducible show wpAny _ _ (eval (PySem.Expr.Name (PySem.Str.ofString "name") _) _) _ _ _) | (with_reducible show wpAny _ _ (eval (PySem.Expr.Name (PySem.Str.ofString "first") _) _) _ _ _) | (with_reducible show wpAny _ _ (eval (PySem.Expr.Name (PySem.Str.ofString "second") _) _) _ _ _) | (with_reducible show wpAny _ _ (eval (PySem.Expr.Name (PySem.Str.ofString "line") _) _) _ _ _) | (with_reducible show wpAny _ _ (eval (PySem.Expr.Name (PySem.Str.ofString "place") _) _) _ _ _) | (with_reducible show wpAny _ _ (eval (PySem.Expr.Name (PySem.Str.ofString "what") _) _) _ _ _) | (with_reducible show wpAny _ _ (eval (PySem.Expr.Name (PySem.Str.ofString "fault") _) _) _ _ _) | (with_reducible show wpAny _ _ (eval (PySem.Expr.Name (PySem.Str.ofString "words") _) _) _ _ _)); k_dflt (refine ld (by k_asm) (by first | assumption | exact rfl) ?_)); (try dsimp only)) | (((with_reducible show wpAny _ _ (compareOp CmpOp.In (Value.str _ _) (Value.ref C)) _ _ _); k_dflt (refine in_lst (by k_asm) (by k_mem) cd here.ok.okSecs (ok_sec _ (by assumption)) hun2 ho ?_)); (try dsimp only)) | (((with_reducible show wpAny _ _ (newList _) _ _ _); k_dflt (refine newList_K (by k_asm) (by k_asm) ?_ (by rw [sizeLine_eq]; exact Nat.le_of_ble_eq_true rfl))); intro x' h' F' N' ltx; have abx := Abv.mk (I := I) (K := K) (G := G) (C := C) (O := O) ltx (by repeat (first | exact .head _ | refine .tail _ ?_)) (by repeat (first | exact .head _ | refine .tail _ ?_)) (by repeat (first | exact .head _ | refine .tail _ ?_)) (by repeat (first | exact .head _ | refine .tail _ ?_)) (by repeat (first | exact .head _ | refine .tail _ ?_)); (try dsimp only)) | (((with_reducible show wpAny _ _ (newTuple _) _ _ _); k_dflt (refine kup_newTuple (by k_asm) (by k_asm) ?_ (by rw [sizeLine_eq]; exact Nat.le_of_ble_eq_true rfl))); intro x' h' F' N' ltx; have abx := Abv.mk (I := I) (K := K) (G := G) (C := C) (O := O) ltx (by repeat (first | exact .head _ | refine .tail _ ?_)) (by repeat (first | exact .head _ | refine .tail _ ?_)) (by repeat (first | exact .head _ | refine .tail _ ?_)) (by repeat (first | exact .head _ | refine .tail _ ?_)) (by repeat (first | exact .head _ | refine .tail _ ?_)); (try dsimp only)) | (((with_reducible show wpAny _ _ (getMethod (Value.ref _) _ _) _ _ _); k_dflt (refine listMethod_K (by k_asm) (by k_mem) PySem.F.slot_list_append PySem.F.type_list_append ?_)); (try dsimp only)) | ((with_reducible show wpAny _ _ (call (Value.builtin "list.append") _) _ _ _); (try dsimp only [List.nil_append, List.cons_append]); (with_reducible show wpAny _ _ (call (Value.builtin "list.append") [_, _]) _ _ _); k_dflt (refine append_K (by k_asm) (by k_asm) (by first | exact (.tail (Abv.nK (by assumption)) (uK _ _ _ _ _)) | exact (.tail (Abv.nK (by assumption)) (.tail (Abv.nK (by assumption)) (uK _ _ _ _ _))) | exact (.tail (Abv.nK (by assumption)) (.tail (Abv.nK (by assumption)) (.tail (Abv.nK (by assumption)) (uK _ _ _ _ _)))) | exact (.tail (Abv.nG (by assumption)) (.tail (Abv.nG (by assumption)) (uG _ _ _ _ _))) | exact (.tail (Abv.nG (by assumption)) (.tail (Abv.nG (by assumption)) (.tail (Abv.nG (by assumption)) (uG _ _ _ _ _)))) | exact (uC _ _ _ _ _) | exact (.tail (Abv.nO (by assumption)) (.tail (Abv.nO (by assumption)) (uO _ _ _ _ _)))) ?_ (by rw [List.size_toArray, sizeLine_eq]; omega)); intro h' F' N'; (try dsimp only)) | (((with_reducible show wpAny _ _ (call (Value.ref 146) [Value.str _ _]) _ _ _); k_dflt (refine quoted_N (by assumption) B' (by k_asm) (by k_asm) (Around.frames_deeper hA) rfl rfl X T (by rw [depth_deeper]; omega) ?_)); intro h' t' tk' F' N'; (try dsimp only)) | (((with_reducible show wpAny _ _ (binaryOp Operator.Add (Value.str _ _) (Value.str _ _)) _ _ _); k_dflt (refine add_str ?_ (by simp only [app_len]; rw [sizeLine_eq]; omega))); intro _ _; (try dsimp only)) | (walk1; (try dsimp only)) | (dsimp only; walk1) | (dsimp only [List.nil_append, List.cons_append]; walk1) | fail "no step")
                refine (show PostT s.heap L' _ _ _ _ _ _ from ?_)
                exact due_log (new := []) J0 hIoff hst0 hri hfl (.cons (.str _ _) (.cons (.str _ _) (.cons (.int _ _) .nil))) rfl (due_ds _ _) (.int _ _) F' N' rfl (by assumption) (by assumption) (fun p hp => absurd hp List.not_mem_nil) ⟨fk, fg, fc, fo, _, fn⟩
              · have ho : decide (s0 ∈ st.secs) = false := decide_eq_false hs1
                have hfl : fault st (.head s0) = none := by rw [fault, if_neg hs1]
                repeat' (first | (with_reducible refine execs_one ?_; (try dsimp only)) | (((first | (with_reducible show wpAny _ _ (eval (PySem.Expr.Name (PySem.Str.ofString "kept") _) _) _ _ _) | (with_reducible show wpAny _ _ (eval (PySem.Expr.Name (PySem.Str.ofString "log") _) _) _ _ _) | (with_reducible show wpAny _ _ (eval (PySem.Expr.Name (PySem.Str.ofString "sections") _) _) _ _ _) | (with_reducible show wpAny _ _ (eval (PySem.Expr.Name (PySem.Str.ofString "options") _) _) _ _ _) | (with_reducible show wpAny _ _ (eval (PySem.Expr.Name (PySem.Str.ofString "name") _) _) _ _ _) | (with_reducible show wpAny _ _ (eval (PySem.Expr.Name (PySem.Str.ofString "first") _) _) _ _ _) | (with_reducible show wpAny _ _ (eval (PySem.Expr.Name (PySem.Str.ofString "second") _) _) _ _ _) | (with_reducible show wpAny _ _ (eval (PySem.Expr.Name (PySem.Str.ofString "line") _) _) _ _ _) | (with_reducible show wpAny _ _ (eval (PySem.Expr.Name (PySem.Str.ofString "place") _) _) _ _ _) | (with_reducible show wpAny _ _ (eval (PySem.Expr.Name (PySem.Str.ofString "what") _) _) _ _ _) | (with_reducible show wpAny _ _ (eval (PySem.Expr.Name (PySem.Str.ofString "fault") _) _) _ _ _) | (with_reducible show wpAny _ _ (eval (PySem.Expr.Name (PySem.Str.ofString "words") _) _) _ _ _)); k_dflt (refine ld (by k_asm) (by first | assumption | exact rfl) ?_)); (try dsimp only)) | (((with_reducible show wpAny _ _ (compareOp CmpOp.In (Value.str _ _) (Value.ref C)) _ _ _); k_dflt (refine in_lst (by k_asm) (by k_mem) cd here.ok.okSecs (ok_sec _ (by assumption)) hun2 ho ?_)); (try dsimp only)) | (((with_reducible show wpAny _ _ (newList _) _ _ _); k_dflt (refine newList_K (by k_asm) (by k_asm) ?_ (by rw [sizeLine_eq]; exact Nat.le_of_ble_eq_true rfl))); intro x' h' F' N' ltx; have abx := Abv.mk (I := I) (K := K) (G := G) (C := C) (O := O) ltx (by repeat (first | exact .head _ | refine .tail _ ?_)) (by repeat (first | exact .head _ | refine .tail _ ?_)) (by repeat (first | exact .head _ | refine .tail _ ?_)) (by repeat (first | exact .head _ | refine .tail _ ?_)) (by repeat (first | exact .head _ | refine .tail _ ?_)); (try dsimp only)) | (((with_reducible show wpAny _ _ (newTuple _) _ _ _); k_dflt (refine kup_newTuple (by k_asm) (by k_asm) ?_ (by rw [sizeLine_eq]; exact Nat.le_of_ble_eq_true rfl))); intro x' h' F' N' ltx; have abx := Abv.mk (I := I) (K := K) (G := G) (C := C) (O := O) ltx (by repeat (first | exact .head _ | refine .tail _ ?_)) (by repeat (first | exact .head _ | refine .tail _ ?_)) (by repeat (first | exact .head _ | refine .tail _ ?_)) (by repeat (first | exact .head _ | refine .tail _ ?_)) (by repeat (first | exact .head _ | refine .tail _ ?_)); (try dsimp only)) | (((with_reducible show wpAny _ _ (getMethod (Value.ref _) _ _) _ _ _); k_dflt (refine listMethod_K (by k_asm) (by k_mem) PySem.F.slot_list_append PySem.F.type_list_append ?_)); (try dsimp only)) | ((with_reducible show wpAny _ _ (call (Value.builtin "list.append") _) _ _ _); (try dsimp only [List.nil_append, List.cons_append]); (with_reducible show wpAny _ _ (call (Value.builtin "list.append") [_, _]) _ _ _); k_dflt (refine append_K (by k_asm) (by k_asm) (by first | exact (.tail (Abv.nK (by assumption)) (uK _ _ _ _ _)) | exact (.tail (Abv.nK (by assumption)) (.tail (Abv.nK (by assumption)) (uK _ _ _ _ _))) | exact (.tail (Abv.nK (by assumption)) (.tail (Abv.nK (by assumption)) (.tail (Abv.nK (by assumption)) (uK _ _ _ _ _)))) | exact (.tail (Abv.nG (by assumption)) (.tail (Abv.nG (by assumption)) (uG _ _ _ _ _))) | exact (.tail (Abv.nG (by assumption)) (.tail (Abv.nG (by assumption)) (.tail (Abv.nG (by assumption)) (uG _ _ _ _ _)))) | exact (uC _ _ _ _ _) | exact (.tail (Abv.nO (by assumption)) (.tail (Abv.nO (by assumption)) (uO _ _ _ _ _)))) ?_ (by rw [List.size_toArray, sizeLine_eq]; omega)); intro h' F' N'; (try dsimp only)) | (((with_reducible show wpAny _ _ (call (Value.ref 146) [Value.str _ _]) _ _ _); k_dflt (refine quoted_N (by assumption) B' (by k_asm) (by k_asm) (Around.frames_deeper hA) rfl rfl X T (by rw [depth_deeper]; omega) ?_)); intro h' t' tk' F' N'; (try dsimp only)) | (((with_reducible show wpAny _ _ (binaryOp Operator.Add (Value.str _ _) (Value.str _ _)) _ _ _); k_dflt (refine add_str ?_ (by simp only [app_len]; rw [sizeLine_eq]; omega))); intro _ _; (try dsimp only)) | (walk1; (try dsimp only)) | (dsimp only; walk1) | (dsimp only [List.nil_append, List.cons_append]; walk1) | fail "no step")
                refine (show PostT s.heap L' _ _ _ _ _ _ from ?_)
                exact due_keep (new := []) (cv' := cv ++ [_]) (ov' := ov) J0 hIoff hst0 hri hrok hfl (.cons (.str _ _) (.cons (.str _ _) (.cons (.str _ _) .nil))) F' N' rfl push_obj rfl (by assumption) (fun p hp => absurd hp List.not_mem_nil) (by rw [next]; dsimp only; rw [List.map_append]; exact cd.append (.one (.str _ _))) (od) ⟨fk, fg, fc, fo, _, rfl⟩
    | opt o0 =>
      cases hrd with
      | cons d1 hrd => cases hrd with
        | cons d2 hrd => cases hrd with
          | cons d3 hrd =>
            cases hrd; cases d1; cases d2; cases d3
            have q2 : o0 ∈ optTexts := hrok
            have hi0 : 0 < i := by
              rcases Nat.eq_zero_or_pos i with z | z
              · obtain ⟨s, r, rfl⟩ := hst0; rw [z] at hri; cases hri
              · exact z
            have q0 : st.name ∈ secTexts := here.ok.sx _ (here.ok.nm hi0)
            have q1 : st.name ∈ secTexts ++ optTexts := List.mem_append.mpr (.inl q0)
            have q3 : o0 ∈ secTexts ++ optTexts := List.mem_append.mpr (.inr q2)
            have w1 := (len_sec _ q0).2
            have w2 := (len_opt _ q2).2
            repeat' ((fail_if_success (with_reducible show wpAny _ _ (exec (Stmt.Assign [PySem.Expr.Name (PySem.Str.ofString "place") _] _ _) _) _ _ _)); first | (with_reducible refine execs_one ?_; (try dsimp only)) | (((first | (with_reducible show wpAny _ _ (eval (PySem.Expr.Name (PySem.Str.ofString "kept") _) _) _ _ _) | (with_reducible show wpAny _ _ (eval (PySem.Expr.Name (PySem.Str.ofString "log") _) _) _ _ _) | (with_reducible show wpAny _ _ (eval (PySem.Expr.Name (PySem.Str.ofString "sections") _) _) _ _ _) | (with_reducible show wpAny _ _ (eval (PySem.Expr.Name (PySem.Str.ofString "options") _) _) _ _ _) | (with_reducible show wpAny _ _ (eval (PySem.Expr.Name (PySem.Str.ofString "name") _) _) _ _ _) | (with_reducible show wpAny _ _ (eval (PySem.Expr.Name (PySem.Str.ofString "first") _) _) _ _ _) | (with_reducible show wpAny _ _ (eval (PySem.Expr.Name (PySem.Str.ofString "second") _) _) _ _ _) | (with_reducible show wpAny _ _ (eval (PySem.Expr.Name (PySem.Str.ofString "line") _) _) _ _ _) | (with_reducible show wpAny _ _ (eval (PySem.Expr.Name (PySem.Str.ofString "place") _) _) _ _ _) | (with_reducible show wpAny _ _ (eval (PySem.Expr.Name (PySem.Str.ofString "what") _) _) _ _ _) | (with_reducible show wpAny _ _ (eval (PySem.Expr.Name (PySem.Str.ofString "fault") _) _) _ _ _) | (with_reducible show wpAny _ _ (eval (PySem.Expr.Name (PySem.Str.ofString "words") _) _) _ _ _)); k_dflt (refine ld (by k_asm) (by first | assumption | exact rfl) ?_)); (try dsimp only)) | (((with_reducible show wpAny _ _ (assign (PySem.Expr.Tuple _ _ _) _ (Value.ref _)) _ _ _); k_dflt (refine unpackL (by k_asm) (by k_asm) hh (hal.at fun o e => (by k_asm : Fr s.heap L' _ _).keep a o e) (by rfl) (by rfl) ?_)); intro hU' FU NU; (try dsimp only)) | (((with_reducible show wpAny _ _ (call (Value.builtin "len") [Value.ref K]) _ _ _); k_dflt (refine len_led (by k_asm) (by k_mem) hkl (by omega) ?_)); intro tn kn; (try dsimp only)) | (((with_reducible show wpAny _ _ (newList _) _ _ _); k_dflt (refine newList_K (by k_asm) (by k_asm) ?_ (by rw [sizeLine_eq]; exact Nat.le_of_ble_eq_true rfl))); intro x' h' F' N' ltx; (try dsimp only)) | (walk1; (try dsimp only)) | (dsimp only; walk1) | (dsimp only [List.nil_append, List.cons_append]; walk1) | fail "no step")
            refine place_step (x := placeT (kept.length + 1)) (by k_asm) (by k_asm) ?P ?KK
            case P =>
              intro Q' hQ'
              repeat' (first | (with_reducible refine execs_one ?_; (try dsimp only)) | (((first | (with_reducible show wpAny _ _ (eval (PySem.Expr.Name (PySem.Str.ofString "kept") _) _) _ _ _) | (with_reducible show wpAny _ _ (eval (PySem.Expr.Name (PySem.Str.ofString "log") _) _) _ _ _) | (with_reducible show wpAny _ _ (eval (PySem.Expr.Name (PySem.Str.ofString "sections") _) _) _ _ _) | (with_reducible show wpAny _ _ (eval (PySem.Expr.Name (PySem.Str.ofString "options") _) _) _ _ _) | (with_reducible show wpAny _ _ (eval (PySem.Expr.Name (PySem.Str.ofString "name") _) _) _ _ _) | (with_reducible show wpAny _ _ (eval (PySem.Expr.Name (PySem.Str.ofString "first") _) _) _ _ _) | (with_reducible show wpAny _ _ (eval (PySem.Expr.Name (PySem.Str.ofString "second") _) _) _ _ _) | (with_reducible show wpAny _ _ (eval (PySem.Expr.Name (PySem.Str.ofString "line") _) _) _ _ _) | (with_reducible show wpAny _ _ (eval (PySem.Expr.Name (PySem.Str.ofString "place") _) _) _ _ _) | (with_reducible show wpAny _ _ (eval (PySem.Expr.Name (PySem.Str.ofString "what") _) _) _ _ _) | (with_reducible show wpAny _ _ (eval (PySem.Expr.Name (PySem.Str.ofString "fault") _) _) _ _ _) | (with_reducible show wpAny _ _ (eval (PySem.Expr.Name (PySem.Str.ofString "words") _) _) _ _ _)); k_dflt (refine ld (by k_asm) (by first | assumption | exact rfl) ?_)); (try dsimp only)) | (((with_reducible show wpAny _ _ (binaryOp Operator.Add (Value.str _ _) (Value.str _ _)) _ _ _); k_dflt (refine add_str ?_ (by simp only [app_len]; rw [sizeLine_eq]; omega))); intro _ _; (try dsimp only)) | (walk1; (try dsimp only)) | (dsimp only; walk1) | (dsimp only [List.nil_append, List.cons_append]; walk1) | fail "no step")
              all_goals first
                | exact hQ' _ _ _ _ (place_hi2 kept.length (List.mem_range.mpr (by omega)) (by omega)) (by assumption) (by assumption)
                | exact hQ' _ _ _ _ (place_lo2 kept.length (List.mem_range.mpr (by omega)) (by omega)) (by assumption) (by assumption)
            case KK =>
              intro h' t' k F' N'
              dsimp only
              by_cases ho1 : (st.name, o0) ∈ st.opts
              · have ho2 : decide ((st.name, o0) ∈ st.opts) = true := decide_eq_true ho1
                have hfl : fault st (.opt o0) = some (.dop st.name o0) := by rw [fault, if_pos ho1]
                repeat' (first | (with_reducible refine execs_one ?_; (try dsimp only)) | (((first | (with_reducible show wpAny _ _ (eval (PySem.Expr.Name (PySem.Str.ofString "kept") _) _) _ _ _) | (with_reducible show wpAny _ _ (eval (PySem.Expr.Name (PySem.Str.ofString "log") _) _) _ _ _) | (with_reducible show wpAny _ _ (eval (PySem.Expr.Name (PySem.Str.ofString "sections") _) _) _ _ _) | (with_reducible show wpAny _ _ (eval (PySem.Expr.Name (PySem.Str.ofString "options") _) _) _ _ _) | (with_reducible show wpAny _ _ (eval (PySem.Expr.Name (PySem.Str.ofString "name") _) _) _ _ _) | (with_reducible show wpAny _ _ (eval (PySem.Expr.Name (PySem.Str.ofString "first") _) _) _ _ _) | (with_reducible show wpAny _ _ (eval (PySem.Expr.Name (PySem.Str.ofString "second") _) _) _ _ _) | (with_reducible show wpAny _ _ (eval (PySem.Expr.Name (PySem.Str.ofString "line") _) _) _ _ _) | (with_reducible show wpAny _ _ (eval (PySem.Expr.Name (PySem.Str.ofString "place") _) _) _ _ _) | (with_reducible show wpAny _ _ (eval (PySem.Expr.Name (PySem.Str.ofString "what") _) _) _ _ _) | (with_reducible show wpAny _ _ (eval (PySem.Expr.Name (PySem.Str.ofString "fault") _) _) _ _ _) | (with_reducible show wpAny _ _ (eval (PySem.Expr.Name (PySem.Str.ofString "words") _) _) _ _ _)); k_dflt (refine ld (by k_asm) (by first | assumption | exact rfl) ?_)); (try dsimp only)) | (((with_reducible show wpAny _ _ (compareOp CmpOp.In (Value.ref _) (Value.ref O)) _ _ _); k_dflt (refine pair_in (by k_asm) (by k_mem) od (fun q hq => .tail _ (.tail _ (.tail _ (.tail _ (.tail _ (.tail _ (sub q hq))))))) (.head _) here.ok.okPairs (pair_ok (by assumption) (by assumption)) hun2 ho2 ?_)); (try dsimp only)) | (((with_reducible show wpAny _ _ (newList _) _ _ _); k_dflt (refine newList_K (by k_asm) (by k_asm) ?_ (by rw [sizeLine_eq]; exact Nat.le_of_ble_eq_true rfl))); intro x' h' F' N' ltx; have abx := Abv.mk (I := I) (K := K) (G := G) (C := C) (O := O) ltx (by repeat (first | exact .head _ | refine .tail _ ?_)) (by repeat (first | exact .head _ | refine .tail _ ?_)) (by repeat (first | exact .head _ | refine .tail _ ?_)) (by repeat (first | exact .head _ | refine .tail _ ?_)) (by repeat (first | exact .head _ | refine .tail _ ?_)); (try dsimp only)) | (((with_reducible show wpAny _ _ (newTuple _) _ _ _); k_dflt (refine kup_newTuple (by k_asm) (by k_asm) ?_ (by rw [sizeLine_eq]; exact Nat.le_of_ble_eq_true rfl))); intro x' h' F' N' ltx; have abx := Abv.mk (I := I) (K := K) (G := G) (C := C) (O := O) ltx (by repeat (first | exact .head _ | refine .tail _ ?_)) (by repeat (first | exact .head _ | refine .tail _ ?_)) (by repeat (first | exact .head _ | refine .tail _ ?_)) (by repeat (first | exact .head _ | refine .tail _ ?_)) (by repeat (first | exact .head _ | refine .tail _ ?_)); (try dsimp only)) | (((with_reducible show wpAny _ _ (getMethod (Value.ref _) _ _) _ _ _); k_dflt (refine listMethod_K (by k_asm) (by k_mem) PySem.F.slot_list_append PySem.F.type_list_append ?_)); (try dsimp only)) | ((with_reducible show wpAny _ _ (call (Value.builtin "list.append") _) _ _ _); (try dsimp only [List.nil_append, List.cons_append]); (with_reducible show wpAny _ _ (call (Value.builtin "list.append") [_, _]) _ _ _); k_dflt (refine append_K (by k_asm) (by k_asm) (by first | exact (.tail (Abv.nK (by assumption)) (uK _ _ _ _ _)) | exact (.tail (Abv.nK (by assumption)) (.tail (Abv.nK (by assumption)) (uK _ _ _ _ _))) | exact (.tail (Abv.nK (by assumption)) (.tail (Abv.nK (by assumption)) (.tail (Abv.nK (by assumption)) (uK _ _ _ _ _)))) | exact (.tail (Abv.nG (by assumption)) (.tail (Abv.nG (by assumption)) (uG _ _ _ _ _))) | exact (.tail (Abv.nG (by assumption)) (.tail (Abv.nG (by assumption)) (.tail (Abv.nG (by assumption)) (uG _ _ _ _ _)))) | exact (uC _ _ _ _ _) | exact (.tail (Abv.nO (by assumption)) (.tail (Abv.nO (by assumption)) (uO _ _ _ _ _)))) ?_ (by rw [List.size_toArray, sizeLine_eq]; omega)); intro h' F' N'; (try dsimp only)) | (((with_reducible show wpAny _ _ (call (Value.ref 146) [Value.str _ _]) _ _ _); k_dflt (refine quoted_N (by assumption) B' (by k_asm) (by k_asm) (Around.frames_deeper hA) rfl rfl X T (by rw [depth_deeper]; omega) ?_)); intro h' t' tk' F' N'; (try dsimp only)) | (((with_reducible show wpAny _ _ (binaryOp Operator.Add (Value.str _ _) (Value.str _ _)) _ _ _); k_dflt (refine add_str ?_ (by simp only [app_len]; rw [sizeLine_eq]; omega))); intro _ _; (try dsimp only)) | (walk1; (try dsimp only)) | (dsimp only; walk1) | (dsimp only [List.nil_append, List.cons_append]; walk1) | fail "no step")
                refine (show PostT s.heap L' _ _ _ _ _ _ from ?_)
                exact due_log (new := [(_, _)]) J0 hIoff hst0 hri hfl (.cons (.str _ _) (.cons (.str _ _) (.cons (.str _ _) (.cons (.int _ _) .nil)))) rfl (due_do _ _ _) (.int _ _) F' N' rfl (by assumption) (by assumption) (by intro p hp; rw [List.mem_singleton.mp hp]; assumption) ⟨fk, fg, fc, fo, _, fn⟩
              · have ho2 : decide ((st.name, o0) ∈ st.opts) = false := decide_eq_false ho1
                have hfl : fault st (.opt o0) = none := by rw [fault, if_neg ho1]
                repeat' (first | (with_reducible refine execs_one ?_; (try dsimp only)) | (((first | (with_reducible show wpAny _ _ (eval (PySem.Expr.Name (PySem.Str.ofString "kept") _) _) _ _ _) | (with_reducible show wpAny _ _ (eval (PySem.Expr.Name (PySem.Str.ofString "log") _) _) _ _ _) | (with_reducible show wpAny _ _ (eval (PySem.Expr.Name (PySem.Str.ofString "sections") _) _) _ _ _) | (with_reducible show wpAny _ _ (eval (PySem.Expr.Name (PySem.Str.ofString "options") _) _) _ _ _) | (with_reducible show wpAny _ _ (eval (PySem.Expr.Name (PySem.Str.ofString "name") _) _) _ _ _) | (with_reducible show wpAny _ _ (eval (PySem.Expr.Name (PySem.Str.ofString "first") _) _) _ _ _) | (with_reducible show wpAny _ _ (eval (PySem.Expr.Name (PySem.Str.ofString "second") _) _) _ _ _) | (with_reducible show wpAny _ _ (eval (PySem.Expr.Name (PySem.Str.ofString "line") _) _) _ _ _) | (with_reducible show wpAny _ _ (eval (PySem.Expr.Name (PySem.Str.ofString "place") _) _) _ _ _) | (with_reducible show wpAny _ _ (eval (PySem.Expr.Name (PySem.Str.ofString "what") _) _) _ _ _) | (with_reducible show wpAny _ _ (eval (PySem.Expr.Name (PySem.Str.ofString "fault") _) _) _ _ _) | (with_reducible show wpAny _ _ (eval (PySem.Expr.Name (PySem.Str.ofString "words") _) _) _ _ _)); k_dflt (refine ld (by k_asm) (by first | assumption | exact rfl) ?_)); (try dsimp only)) | (((with_reducible show wpAny _ _ (compareOp CmpOp.In (Value.ref _) (Value.ref O)) _ _ _); k_dflt (refine pair_in (by k_asm) (by k_mem) od (fun q hq => .tail _ (.tail _ (.tail _ (.tail _ (.tail _ (.tail _ (sub q hq))))))) (.head _) here.ok.okPairs (pair_ok (by assumption) (by assumption)) hun2 ho2 ?_)); (try dsimp only)) | (((with_reducible show wpAny _ _ (newList _) _ _ _); k_dflt (refine newList_K (by k_asm) (by k_asm) ?_ (by rw [sizeLine_eq]; exact Nat.le_of_ble_eq_true rfl))); intro x' h' F' N' ltx; have abx := Abv.mk (I := I) (K := K) (G := G) (C := C) (O := O) ltx (by repeat (first | exact .head _ | refine .tail _ ?_)) (by repeat (first | exact .head _ | refine .tail _ ?_)) (by repeat (first | exact .head _ | refine .tail _ ?_)) (by repeat (first | exact .head _ | refine .tail _ ?_)) (by repeat (first | exact .head _ | refine .tail _ ?_)); (try dsimp only)) | (((with_reducible show wpAny _ _ (newTuple _) _ _ _); k_dflt (refine kup_newTuple (by k_asm) (by k_asm) ?_ (by rw [sizeLine_eq]; exact Nat.le_of_ble_eq_true rfl))); intro x' h' F' N' ltx; have abx := Abv.mk (I := I) (K := K) (G := G) (C := C) (O := O) ltx (by repeat (first | exact .head _ | refine .tail _ ?_)) (by repeat (first | exact .head _ | refine .tail _ ?_)) (by repeat (first | exact .head _ | refine .tail _ ?_)) (by repeat (first | exact .head _ | refine .tail _ ?_)) (by repeat (first | exact .head _ | refine .tail _ ?_)); (try dsimp only)) | (((with_reducible show wpAny _ _ (getMethod (Value.ref _) _ _) _ _ _); k_dflt (refine listMethod_K (by k_asm) (by k_mem) PySem.F.slot_list_append PySem.F.type_list_append ?_)); (try dsimp only)) | ((with_reducible show wpAny _ _ (call (Value.builtin "list.append") _) _ _ _); (try dsimp only [List.nil_append, List.cons_append]); (with_reducible show wpAny _ _ (call (Value.builtin "list.append") [_, _]) _ _ _); k_dflt (refine append_K (by k_asm) (by k_asm) (by first | exact (.tail (Abv.nK (by assumption)) (uK _ _ _ _ _)) | exact (.tail (Abv.nK (by assumption)) (.tail (Abv.nK (by assumption)) (uK _ _ _ _ _))) | exact (.tail (Abv.nK (by assumption)) (.tail (Abv.nK (by assumption)) (.tail (Abv.nK (by assumption)) (uK _ _ _ _ _)))) | exact (.tail (Abv.nG (by assumption)) (.tail (Abv.nG (by assumption)) (uG _ _ _ _ _))) | exact (.tail (Abv.nG (by assumption)) (.tail (Abv.nG (by assumption)) (.tail (Abv.nG (by assumption)) (uG _ _ _ _ _)))) | exact (uC _ _ _ _ _) | exact (.tail (Abv.nO (by assumption)) (.tail (Abv.nO (by assumption)) (uO _ _ _ _ _)))) ?_ (by rw [List.size_toArray, sizeLine_eq]; omega)); intro h' F' N'; (try dsimp only)) | (((with_reducible show wpAny _ _ (call (Value.ref 146) [Value.str _ _]) _ _ _); k_dflt (refine quoted_N (by assumption) B' (by k_asm) (by k_asm) (Around.frames_deeper hA) rfl rfl X T (by rw [depth_deeper]; omega) ?_)); intro h' t' tk' F' N'; (try dsimp only)) | (((with_reducible show wpAny _ _ (binaryOp Operator.Add (Value.str _ _) (Value.str _ _)) _ _ _); k_dflt (refine add_str ?_ (by simp only [app_len]; rw [sizeLine_eq]; omega))); intro _ _; (try dsimp only)) | (walk1; (try dsimp only)) | (dsimp only; walk1) | (dsimp only [List.nil_append, List.cons_append]; walk1) | fail "no step")
                refine (show PostT s.heap L' _ _ _ _ _ _ from ?_)
                exact due_keep (new := [(_, _), (_, _)]) (cv' := cv) (ov' := ov ++ [_]) J0 hIoff hst0 hri hrok hfl (.cons (.str _ _) (.cons (.str _ _) (.cons (.str _ _) .nil))) F' N' rfl rfl push_obj (by assumption) (by simp only [List.mem_cons, List.not_mem_nil, or_false]; rintro p (rfl | rfl) <;> assumption) (cd) (by rw [next]; dsimp only; rw [List.map_append]; exact DatAll.append (od.mono fun p hp => .tail _ (.tail _ hp)) (.one (.list (.head _) (.cons (.str _ _) (.cons (.str _ _) .nil))))) ⟨fk, fg, fc, fo, _, fn⟩
    | look o0 s0 =>
      cases hrd with
      | cons d1 hrd => cases hrd with
        | cons d2 hrd => cases hrd with
          | cons d3 hrd =>
            cases hrd; cases d1; cases d2; cases d3
            have q2 : o0 ∈ optTexts := hrok.1
            have q0 : s0 ∈ secTexts := hrok.2
            have q1 : s0 ∈ secTexts ++ optTexts := List.mem_append.mpr (.inl q0)
            have q3 : o0 ∈ secTexts ++ optTexts := List.mem_append.mpr (.inr q2)
            have w1 := (len_sec _ q0).2
            have w2 := (len_opt _ q2).2
            repeat' ((fail_if_success (with_reducible show wpAny _ _ (exec (Stmt.Assign [PySem.Expr.Name (PySem.Str.ofString "place") _] _ _) _) _ _ _)); first | (with_reducible refine execs_one ?_; (try dsimp only)) | (((first | (with_reducible show wpAny _ _ (eval (PySem.Expr.Name (PySem.Str.ofString "kept") _) _) _ _ _) | (with_reducible show wpAny _ _ (eval (PySem.Expr.Name (PySem.Str.ofString "log") _) _) _ _ _) | (with_reducible show wpAny _ _ (eval (PySem.Expr.Name (PySem.Str.ofString "sections") _) _) _ _ _) | (with_reducible show wpAny _ _ (eval (PySem.Expr.Name (PySem.Str.ofString "options") _) _) _ _ _) | (with_reducible show wpAny _ _ (eval (PySem.Expr.Name (PySem.Str.ofString "name") _) _) _ _ _) | (with_reducible show wpAny _ _ (eval (PySem.Expr.Name (PySem.Str.ofString "first") _) _) _ _ _) | (with_reducible show wpAny _ _ (eval (PySem.Expr.Name (PySem.Str.ofString "second") _) _) _ _ _) | (with_reducible show wpAny _ _ (eval (PySem.Expr.Name (PySem.Str.ofString "line") _) _) _ _ _) | (with_reducible show wpAny _ _ (eval (PySem.Expr.Name (PySem.Str.ofString "place") _) _) _ _ _) | (with_reducible show wpAny _ _ (eval (PySem.Expr.Name (PySem.Str.ofString "what") _) _) _ _ _) | (with_reducible show wpAny _ _ (eval (PySem.Expr.Name (PySem.Str.ofString "fault") _) _) _ _ _) | (with_reducible show wpAny _ _ (eval (PySem.Expr.Name (PySem.Str.ofString "words") _) _) _ _ _)); k_dflt (refine ld (by k_asm) (by first | assumption | exact rfl) ?_)); (try dsimp only)) | (((with_reducible show wpAny _ _ (assign (PySem.Expr.Tuple _ _ _) _ (Value.ref _)) _ _ _); k_dflt (refine unpackL (by k_asm) (by k_asm) hh (hal.at fun o e => (by k_asm : Fr s.heap L' _ _).keep a o e) (by rfl) (by rfl) ?_)); intro hU' FU NU; (try dsimp only)) | (((with_reducible show wpAny _ _ (call (Value.builtin "len") [Value.ref K]) _ _ _); k_dflt (refine len_led (by k_asm) (by k_mem) hkl (by omega) ?_)); intro tn kn; (try dsimp only)) | (((with_reducible show wpAny _ _ (newList _) _ _ _); k_dflt (refine newList_K (by k_asm) (by k_asm) ?_ (by rw [sizeLine_eq]; exact Nat.le_of_ble_eq_true rfl))); intro x' h' F' N' ltx; (try dsimp only)) | (walk1; (try dsimp only)) | (dsimp only; walk1) | (dsimp only [List.nil_append, List.cons_append]; walk1) | fail "no step")
            refine place_step (x := placeT (kept.length + 1)) (by k_asm) (by k_asm) ?P ?KK
            case P =>
              intro Q' hQ'
              repeat' (first | (with_reducible refine execs_one ?_; (try dsimp only)) | (((first | (with_reducible show wpAny _ _ (eval (PySem.Expr.Name (PySem.Str.ofString "kept") _) _) _ _ _) | (with_reducible show wpAny _ _ (eval (PySem.Expr.Name (PySem.Str.ofString "log") _) _) _ _ _) | (with_reducible show wpAny _ _ (eval (PySem.Expr.Name (PySem.Str.ofString "sections") _) _) _ _ _) | (with_reducible show wpAny _ _ (eval (PySem.Expr.Name (PySem.Str.ofString "options") _) _) _ _ _) | (with_reducible show wpAny _ _ (eval (PySem.Expr.Name (PySem.Str.ofString "name") _) _) _ _ _) | (with_reducible show wpAny _ _ (eval (PySem.Expr.Name (PySem.Str.ofString "first") _) _) _ _ _) | (with_reducible show wpAny _ _ (eval (PySem.Expr.Name (PySem.Str.ofString "second") _) _) _ _ _) | (with_reducible show wpAny _ _ (eval (PySem.Expr.Name (PySem.Str.ofString "line") _) _) _ _ _) | (with_reducible show wpAny _ _ (eval (PySem.Expr.Name (PySem.Str.ofString "place") _) _) _ _ _) | (with_reducible show wpAny _ _ (eval (PySem.Expr.Name (PySem.Str.ofString "what") _) _) _ _ _) | (with_reducible show wpAny _ _ (eval (PySem.Expr.Name (PySem.Str.ofString "fault") _) _) _ _ _) | (with_reducible show wpAny _ _ (eval (PySem.Expr.Name (PySem.Str.ofString "words") _) _) _ _ _)); k_dflt (refine ld (by k_asm) (by first | assumption | exact rfl) ?_)); (try dsimp only)) | (((with_reducible show wpAny _ _ (binaryOp Operator.Add (Value.str _ _) (Value.str _ _)) _ _ _); k_dflt (refine add_str ?_ (by simp only [app_len]; rw [sizeLine_eq]; omega))); intro _ _; (try dsimp only)) | (walk1; (try dsimp only)) | (dsimp only; walk1) | (dsimp only [List.nil_append, List.cons_append]; walk1) | fail "no step")
              all_goals first
                | exact hQ' _ _ _ _ (place_hi2 kept.length (List.mem_range.mpr (by omega)) (by omega)) (by assumption) (by assumption)
                | exact hQ' _ _ _ _ (place_lo2 kept.length (List.mem_range.mpr (by omega)) (by omega)) (by assumption) (by assumption)
            case KK =>
              intro h' t' k F' N'
              dsimp only
              by_cases hs1 : s0 ∈ st.secs
              · have ho : (!decide (s0 ∈ st.secs)) = false := by rw [decide_eq_true hs1]; rfl
                by_cases ho1 : (s0, o0) ∈ st.opts
                · have ho2 : (!decide ((s0, o0) ∈ st.opts)) = false := by rw [decide_eq_true ho1]; rfl
                  have hfl : fault st (.look o0 s0) = none := by rw [fault, if_pos hs1, if_pos ho1]
                  repeat' (first | (with_reducible refine execs_one ?_; (try dsimp only)) | (((first | (with_reducible show wpAny _ _ (eval (PySem.Expr.Name (PySem.Str.ofString "kept") _) _) _ _ _) | (with_reducible show wpAny _ _ (eval (PySem.Expr.Name (PySem.Str.ofString "log") _) _) _ _ _) | (with_reducible show wpAny _ _ (eval (PySem.Expr.Name (PySem.Str.ofString "sections") _) _) _ _ _) | (with_reducible show wpAny _ _ (eval (PySem.Expr.Name (PySem.Str.ofString "options") _) _) _ _ _) | (with_reducible show wpAny _ _ (eval (PySem.Expr.Name (PySem.Str.ofString "name") _) _) _ _ _) | (with_reducible show wpAny _ _ (eval (PySem.Expr.Name (PySem.Str.ofString "first") _) _) _ _ _) | (with_reducible show wpAny _ _ (eval (PySem.Expr.Name (PySem.Str.ofString "second") _) _) _ _ _) | (with_reducible show wpAny _ _ (eval (PySem.Expr.Name (PySem.Str.ofString "line") _) _) _ _ _) | (with_reducible show wpAny _ _ (eval (PySem.Expr.Name (PySem.Str.ofString "place") _) _) _ _ _) | (with_reducible show wpAny _ _ (eval (PySem.Expr.Name (PySem.Str.ofString "what") _) _) _ _ _) | (with_reducible show wpAny _ _ (eval (PySem.Expr.Name (PySem.Str.ofString "fault") _) _) _ _ _) | (with_reducible show wpAny _ _ (eval (PySem.Expr.Name (PySem.Str.ofString "words") _) _) _ _ _)); k_dflt (refine ld (by k_asm) (by first | assumption | exact rfl) ?_)); (try dsimp only)) | (((with_reducible show wpAny _ _ (compareOp CmpOp.NotIn (Value.str _ _) (Value.ref C)) _ _ _); k_dflt (refine notin_lst (by k_asm) (by k_mem) cd here.ok.okSecs (ok_sec _ (by assumption)) hun2 ho ?_)); (try dsimp only)) | (((with_reducible show wpAny _ _ (compareOp CmpOp.NotIn (Value.ref _) (Value.ref O)) _ _ _); k_dflt (refine pair_nin (by k_asm) (by k_mem) od (fun q hq => .tail _ (.tail _ (.tail _ (.tail _ (.tail _ (.tail _ (sub q hq))))))) (.head _) here.ok.okPairs (pair_ok (by assumption) (by assumption)) hun2 ho2 ?_)); (try dsimp only)) | (((with_reducible show wpAny _ _ (newList _) _ _ _); k_dflt (refine newList_K (by k_asm) (by k_asm) ?_ (by rw [sizeLine_eq]; exact Nat.le_of_ble_eq_true rfl))); intro x' h' F' N' ltx; have abx := Abv.mk (I := I) (K := K) (G := G) (C := C) (O := O) ltx (by repeat (first | exact .head _ | refine .tail _ ?_)) (by repeat (first | exact .head _ | refine .tail _ ?_)) (by repeat (first | exact .head _ | refine .tail _ ?_)) (by repeat (first | exact .head _ | refine .tail _ ?_)) (by repeat (first | exact .head _ | refine .tail _ ?_)); (try dsimp only)) | (((with_reducible show wpAny _ _ (newTuple _) _ _ _); k_dflt (refine kup_newTuple (by k_asm) (by k_asm) ?_ (by rw [sizeLine_eq]; exact Nat.le_of_ble_eq_true rfl))); intro x' h' F' N' ltx; have abx := Abv.mk (I := I) (K := K) (G := G) (C := C) (O := O) ltx (by repeat (first | exact .head _ | refine .tail _ ?_)) (by repeat (first | exact .head _ | refine .tail _ ?_)) (by repeat (first | exact .head _ | refine .tail _ ?_)) (by repeat (first | exact .head _ | refine .tail _ ?_)) (by repeat (first | exact .head _ | refine .tail _ ?_)); (try dsimp only)) | (((with_reducible show wpAny _ _ (getMethod (Value.ref _) _ _) _ _ _); k_dflt (refine listMethod_K (by k_asm) (by k_mem) PySem.F.slot_list_append PySem.F.type_list_append ?_)); (try dsimp only)) | ((with_reducible show wpAny _ _ (call (Value.builtin "list.append") _) _ _ _); (try dsimp only [List.nil_append, List.cons_append]); (with_reducible show wpAny _ _ (call (Value.builtin "list.append") [_, _]) _ _ _); k_dflt (refine append_K (by k_asm) (by k_asm) (by first | exact (.tail (Abv.nK (by assumption)) (uK _ _ _ _ _)) | exact (.tail (Abv.nK (by assumption)) (.tail (Abv.nK (by assumption)) (uK _ _ _ _ _))) | exact (.tail (Abv.nK (by assumption)) (.tail (Abv.nK (by assumption)) (.tail (Abv.nK (by assumption)) (uK _ _ _ _ _)))) | exact (.tail (Abv.nG (by assumption)) (.tail (Abv.nG (by assumption)) (uG _ _ _ _ _))) | exact (.tail (Abv.nG (by assumption)) (.tail (Abv.nG (by assumption)) (.tail (Abv.nG (by assumption)) (uG _ _ _ _ _)))) | exact (uC _ _ _ _ _) | exact (.tail (Abv.nO (by assumption)) (.tail (Abv.nO (by assumption)) (uO _ _ _ _ _)))) ?_ (by rw [List.size_toArray, sizeLine_eq]; omega)); intro h' F' N'; (try dsimp only)) | (((with_reducible show wpAny _ _ (call (Value.ref 146) [Value.str _ _]) _ _ _); k_dflt (refine quoted_N (by assumption) B' (by k_asm) (by k_asm) (Around.frames_deeper hA) rfl rfl X T (by rw [depth_deeper]; omega) ?_)); intro h' t' tk' F' N'; (try dsimp only)) | (((with_reducible show wpAny _ _ (binaryOp Operator.Add (Value.str _ _) (Value.str _ _)) _ _ _); k_dflt (refine add_str ?_ (by simp only [app_len]; rw [sizeLine_eq]; omega))); intro _ _; (try dsimp only)) | (walk1; (try dsimp only)) | (dsimp only; walk1) | (dsimp only [List.nil_append, List.cons_append]; walk1) | fail "no step")
                  refine (show PostT s.heap L' _ _ _ _ _ _ from ?_)
                  exact due_keep (new := [(_, _)]) (cv' := cv) (ov' := ov) J0 hIoff hst0 hri hrok hfl (.cons (.str _ _) (.cons (.str _ _) (.cons (.str _ _) .nil))) F' N' rfl rfl rfl (by assumption) (by intro p hp; rw [List.mem_singleton.mp hp]; assumption) (cd) (od.mono fun p hp => .tail _ hp) ⟨fk, fg, fc, fo, _, fn⟩
                · have ho2 : (!decide ((s0, o0) ∈ st.opts)) = true := by rw [decide_eq_false ho1]; rfl
                  have hfl : fault st (.look o0 s0) = some (.no o0 s0) := by rw [fault, if_pos hs1, if_neg ho1]
                  repeat' (first | (with_reducible refine execs_one ?_; (try dsimp only)) | (((first | (with_reducible show wpAny _ _ (eval (PySem.Expr.Name (PySem.Str.ofString "kept") _) _) _ _ _) | (with_reducible show wpAny _ _ (eval (PySem.Expr.Name (PySem.Str.ofString "log") _) _) _ _ _) | (with_reducible show wpAny _ _ (eval (PySem.Expr.Name (PySem.Str.ofString "sections") _) _) _ _ _) | (with_reducible show wpAny _ _ (eval (PySem.Expr.Name (PySem.Str.ofString "options") _) _) _ _ _) | (with_reducible show wpAny _ _ (eval (PySem.Expr.Name (PySem.Str.ofString "name") _) _) _ _ _) | (with_reducible show wpAny _ _ (eval (PySem.Expr.Name (PySem.Str.ofString "first") _) _) _ _ _) | (with_reducible show wpAny _ _ (eval (PySem.Expr.Name (PySem.Str.ofString "second") _) _) _ _ _) | (with_reducible show wpAny _ _ (eval (PySem.Expr.Name (PySem.Str.ofString "line") _) _) _ _ _) | (with_reducible show wpAny _ _ (eval (PySem.Expr.Name (PySem.Str.ofString "place") _) _) _ _ _) | (with_reducible show wpAny _ _ (eval (PySem.Expr.Name (PySem.Str.ofString "what") _) _) _ _ _) | (with_reducible show wpAny _ _ (eval (PySem.Expr.Name (PySem.Str.ofString "fault") _) _) _ _ _) | (with_reducible show wpAny _ _ (eval (PySem.Expr.Name (PySem.Str.ofString "words") _) _) _ _ _)); k_dflt (refine ld (by k_asm) (by first | assumption | exact rfl) ?_)); (try dsimp only)) | (((with_reducible show wpAny _ _ (compareOp CmpOp.NotIn (Value.str _ _) (Value.ref C)) _ _ _); k_dflt (refine notin_lst (by k_asm) (by k_mem) cd here.ok.okSecs (ok_sec _ (by assumption)) hun2 ho ?_)); (try dsimp only)) | (((with_reducible show wpAny _ _ (compareOp CmpOp.NotIn (Value.ref _) (Value.ref O)) _ _ _); k_dflt (refine pair_nin (by k_asm) (by k_mem) od (fun q hq => .tail _ (.tail _ (.tail _ (.tail _ (.tail _ (.tail _ (sub q hq))))))) (.head _) here.ok.okPairs (pair_ok (by assumption) (by assumption)) hun2 ho2 ?_)); (try dsimp only)) | (((with_reducible show wpAny _ _ (newList _) _ _ _); k_dflt (refine newList_K (by k_asm) (by k_asm) ?_ (by rw [sizeLine_eq]; exact Nat.le_of_ble_eq_true rfl))); intro x' h' F' N' ltx; have abx := Abv.mk (I := I) (K := K) (G := G) (C := C) (O := O) ltx (by repeat (first | exact .head _ | refine .tail _ ?_)) (by repeat (first | exact .head _ | refine .tail _ ?_)) (by repeat (first | exact .head _ | refine .tail _ ?_)) (by repeat (first | exact .head _ | refine .tail _ ?_)) (by repeat (first | exact .head _ | refine .tail _ ?_)); (try dsimp only)) | (((with_reducible show wpAny _ _ (newTuple _) _ _ _); k_dflt (refine kup_newTuple (by k_asm) (by k_asm) ?_ (by rw [sizeLine_eq]; exact Nat.le_of_ble_eq_true rfl))); intro x' h' F' N' ltx; have abx := Abv.mk (I := I) (K := K) (G := G) (C := C) (O := O) ltx (by repeat (first | exact .head _ | refine .tail _ ?_)) (by repeat (first | exact .head _ | refine .tail _ ?_)) (by repeat (first | exact .head _ | refine .tail _ ?_)) (by repeat (first | exact .head _ | refine .tail _ ?_)) (by repeat (first | exact .head _ | refine .tail _ ?_)); (try dsimp only)) | (((with_reducible show wpAny _ _ (getMethod (Value.ref _) _ _) _ _ _); k_dflt (refine listMethod_K (by k_asm) (by k_mem) PySem.F.slot_list_append PySem.F.type_list_append ?_)); (try dsimp only)) | ((with_reducible show wpAny _ _ (call (Value.builtin "list.append") _) _ _ _); (try dsimp only [List.nil_append, List.cons_append]); (with_reducible show wpAny _ _ (call (Value.builtin "list.append") [_, _]) _ _ _); k_dflt (refine append_K (by k_asm) (by k_asm) (by first | exact (.tail (Abv.nK (by assumption)) (uK _ _ _ _ _)) | exact (.tail (Abv.nK (by assumption)) (.tail (Abv.nK (by assumption)) (uK _ _ _ _ _))) | exact (.tail (Abv.nK (by assumption)) (.tail (Abv.nK (by assumption)) (.tail (Abv.nK (by assumption)) (uK _ _ _ _ _)))) | exact (.tail (Abv.nG (by assumption)) (.tail (Abv.nG (by assumption)) (uG _ _ _ _ _))) | exact (.tail (Abv.nG (by assumption)) (.tail (Abv.nG (by assumption)) (.tail (Abv.nG (by assumption)) (uG _ _ _ _ _)))) | exact (uC _ _ _ _ _) | exact (.tail (Abv.nO (by assumption)) (.tail (Abv.nO (by assumption)) (uO _ _ _ _ _)))) ?_ (by rw [List.size_toArray, sizeLine_eq]; omega)); intro h' F' N'; (try dsimp only)) | (((with_reducible show wpAny _ _ (call (Value.ref 146) [Value.str _ _]) _ _ _); k_dflt (refine quoted_N (by assumption) B' (by k_asm) (by k_asm) (Around.frames_deeper hA) rfl rfl X T (by rw [depth_deeper]; omega) ?_)); intro h' t' tk' F' N'; (try dsimp only)) | (((with_reducible show wpAny _ _ (binaryOp Operator.Add (Value.str _ _) (Value.str _ _)) _ _ _); k_dflt (refine add_str ?_ (by simp only [app_len]; rw [sizeLine_eq]; omega))); intro _ _; (try dsimp only)) | (walk1; (try dsimp only)) | (dsimp only; walk1) | (dsimp only [List.nil_append, List.cons_append]; walk1) | fail "no step")
                  refine (show PostT s.heap L' _ _ _ _ _ _ from ?_)
                  exact due_log (new := [(_, _)]) J0 hIoff hst0 hri hfl (.cons (.str _ _) (.cons (.str _ _) .nil)) rfl (due_no (kept.length + 1) _ _) (.int _ _) F' N' rfl (by assumption) (by assumption) (by intro p hp; rw [List.mem_singleton.mp hp]; assumption) ⟨fk, fg, fc, fo, _, fn⟩
              · have ho : (!decide (s0 ∈ st.secs)) = true := by rw [decide_eq_false hs1]; rfl
                have hfl : fault st (.look o0 s0) = some (.ns s0) := by rw [fault, if_neg hs1]
                repeat' (first | (with_reducible refine execs_one ?_; (try dsimp only)) | (((first | (with_reducible show wpAny _ _ (eval (PySem.Expr.Name (PySem.Str.ofString "kept") _) _) _ _ _) | (with_reducible show wpAny _ _ (eval (PySem.Expr.Name (PySem.Str.ofString "log") _) _) _ _ _) | (with_reducible show wpAny _ _ (eval (PySem.Expr.Name (PySem.Str.ofString "sections") _) _) _ _ _) | (with_reducible show wpAny _ _ (eval (PySem.Expr.Name (PySem.Str.ofString "options") _) _) _ _ _) | (with_reducible show wpAny _ _ (eval (PySem.Expr.Name (PySem.Str.ofString "name") _) _) _ _ _) | (with_reducible show wpAny _ _ (eval (PySem.Expr.Name (PySem.Str.ofString "first") _) _) _ _ _) | (with_reducible show wpAny _ _ (eval (PySem.Expr.Name (PySem.Str.ofString "second") _) _) _ _ _) | (with_reducible show wpAny _ _ (eval (PySem.Expr.Name (PySem.Str.ofString "line") _) _) _ _ _) | (with_reducible show wpAny _ _ (eval (PySem.Expr.Name (PySem.Str.ofString "place") _) _) _ _ _) | (with_reducible show wpAny _ _ (eval (PySem.Expr.Name (PySem.Str.ofString "what") _) _) _ _ _) | (with_reducible show wpAny _ _ (eval (PySem.Expr.Name (PySem.Str.ofString "fault") _) _) _ _ _) | (with_reducible show wpAny _ _ (eval (PySem.Expr.Name (PySem.Str.ofString "words") _) _) _ _ _)); k_dflt (refine ld (by k_asm) (by first | assumption | exact rfl) ?_)); (try dsimp only)) | (((with_reducible show wpAny _ _ (compareOp CmpOp.NotIn (Value.str _ _) (Value.ref C)) _ _ _); k_dflt (refine notin_lst (by k_asm) (by k_mem) cd here.ok.okSecs (ok_sec _ (by assumption)) hun2 ho ?_)); (try dsimp only)) | (((with_reducible show wpAny _ _ (newList _) _ _ _); k_dflt (refine newList_K (by k_asm) (by k_asm) ?_ (by rw [sizeLine_eq]; exact Nat.le_of_ble_eq_true rfl))); intro x' h' F' N' ltx; have abx := Abv.mk (I := I) (K := K) (G := G) (C := C) (O := O) ltx (by repeat (first | exact .head _ | refine .tail _ ?_)) (by repeat (first | exact .head _ | refine .tail _ ?_)) (by repeat (first | exact .head _ | refine .tail _ ?_)) (by repeat (first | exact .head _ | refine .tail _ ?_)) (by repeat (first | exact .head _ | refine .tail _ ?_)); (try dsimp only)) | (((with_reducible show wpAny _ _ (newTuple _) _ _ _); k_dflt (refine kup_newTuple (by k_asm) (by k_asm) ?_ (by rw [sizeLine_eq]; exact Nat.le_of_ble_eq_true rfl))); intro x' h' F' N' ltx; have abx := Abv.mk (I := I) (K := K) (G := G) (C := C) (O := O) ltx (by repeat (first | exact .head _ | refine .tail _ ?_)) (by repeat (first | exact .head _ | refine .tail _ ?_)) (by repeat (first | exact .head _ | refine .tail _ ?_)) (by repeat (first | exact .head _ | refine .tail _ ?_)) (by repeat (first | exact .head _ | refine .tail _ ?_)); (try dsimp only)) | (((with_reducible show wpAny _ _ (getMethod (Value.ref _) _ _) _ _ _); k_dflt (refine listMethod_K (by k_asm) (by k_mem) PySem.F.slot_list_append PySem.F.type_list_append ?_)); (try dsimp only)) | ((with_reducible show wpAny _ _ (call (Value.builtin "list.append") _) _ _ _); (try dsimp only [List.nil_append, List.cons_append]); (with_reducible show wpAny _ _ (call (Value.builtin "list.append") [_, _]) _ _ _); k_dflt (refine append_K (by k_asm) (by k_asm) (by first | exact (.tail (Abv.nK (by assumption)) (uK _ _ _ _ _)) | exact (.tail (Abv.nK (by assumption)) (.tail (Abv.nK (by assumption)) (uK _ _ _ _ _))) | exact (.tail (Abv.nK (by assumption)) (.tail (Abv.nK (by assumption)) (.tail (Abv.nK (by assumption)) (uK _ _ _ _ _)))) | exact (.tail (Abv.nG (by assumption)) (.tail (Abv.nG (by assumption)) (uG _ _ _ _ _))) | exact (.tail (Abv.nG (by assumption)) (.tail (Abv.nG (by assumption)) (.tail (Abv.nG (by assumption)) (uG _ _ _ _ _)))) | exact (uC _ _ _ _ _) | exact (.tail (Abv.nO (by assumption)) (.tail (Abv.nO (by assumption)) (uO _ _ _ _ _)))) ?_ (by rw [List.size_toArray, sizeLine_eq]; omega)); intro h' F' N'; (try dsimp only)) | (((with_reducible show wpAny _ _ (call (Value.ref 146) [Value.str _ _]) _ _ _); k_dflt (refine quoted_N (by assumption) B' (by k_asm) (by k_asm) (Around.frames_deeper hA) rfl rfl X T (by rw [depth_deeper]; omega) ?_)); intro h' t' tk' F' N'; (try dsimp only)) | (((with_reducible show wpAny _ _ (binaryOp Operator.Add (Value.str _ _) (Value.str _ _)) _ _ _); k_dflt (refine add_str ?_ (by simp only [app_len]; rw [sizeLine_eq]; omega))); intro _ _; (try dsimp only)) | (walk1; (try dsimp only)) | (dsimp only; walk1) | (dsimp only [List.nil_append, List.cons_append]; walk1) | fail "no step")
                refine (show PostT s.heap L' _ _ _ _ _ _ from ?_)
                exact due_log (new := []) J0 hIoff hst0 hri hfl (.cons (.str _ _) .nil) rfl (due_ns (kept.length + 1) _) (.int _ _) F' N' rfl (by assumption) (by assumption) (fun p hp => absurd hp List.not_mem_nil) ⟨fk, fg, fc, fo, _, fn⟩
  case done =>
    rintro m₁ news₁ h3 tk3 ⟨st, kept, lg, K, G, C, O, kv, gv, cv, ov, nk, ng, nc, no, tl, nl, rfl, J⟩ F3 N3
    obtain ⟨here, kd, gd, cd, od, sub, kt, gt, ct, ot, ne, fk, fg, fc, fo, fn⟩ := J
    rw [hvl] at here
    have e := here.done
    dsimp only
    repeat' (first | (with_reducible refine execs_one ?_; (try dsimp only)) | (((first | (with_reducible show wpAny _ _ (eval (PySem.Expr.Name (PySem.Str.ofString "kept") _) _) _ _ _) | (with_reducible show wpAny _ _ (eval (PySem.Expr.Name (PySem.Str.ofString "log") _) _) _ _ _) | (with_reducible show wpAny _ _ (eval (PySem.Expr.Name (PySem.Str.ofString "sections") _) _) _ _ _) | (with_reducible show wpAny _ _ (eval (PySem.Expr.Name (PySem.Str.ofString "options") _) _) _ _ _) | (with_reducible show wpAny _ _ (eval (PySem.Expr.Name (PySem.Str.ofString "name") _) _) _ _ _) | (with_reducible show wpAny _ _ (eval (PySem.Expr.Name (PySem.Str.ofString "first") _) _) _ _ _) | (with_reducible show wpAny _ _ (eval (PySem.Expr.Name (PySem.Str.ofString "second") _) _) _ _ _) | (with_reducible show wpAny _ _ (eval (PySem.Expr.Name (PySem.Str.ofString "line") _) _) _ _ _) | (with_reducible show wpAny _ _ (eval (PySem.Expr.Name (PySem.Str.ofString "place") _) _) _ _ _) | (with_reducible show wpAny _ _ (eval (PySem.Expr.Name (PySem.Str.ofString "what") _) _) _ _ _) | (with_reducible show wpAny _ _ (eval (PySem.Expr.Name (PySem.Str.ofString "fault") _) _) _ _ _) | (with_reducible show wpAny _ _ (eval (PySem.Expr.Name (PySem.Str.ofString "words") _) _) _ _ _)); k_dflt (refine ld (by k_asm) (by first | assumption | exact rfl) ?_)); (try dsimp only)) | (((with_reducible show wpAny _ _ (newList _) _ _ _); k_dflt (refine newList_K (by k_asm) (by k_asm) ?_ (by rw [sizeLine_eq]; exact Nat.le_of_ble_eq_true rfl))); intro x' h' F' N' ltx; (try dsimp only)) | (walk1; (try dsimp only)) | (dsimp only; walk1) | (dsimp only [List.nil_append, List.cons_append]; walk1) | fail "no step")
    k_unfold
    try dsimp only
    exact h _ _ _ _ kv gv nk ng nl _ F'.keep (N' _ (.head _)).1 (N' _ (.tail _ (.head _))).1 (N' _ (.tail _ (.tail _ (.head _)))).1 (by rw [e]; exact kd) (by rw [e]; exact gd) (fun p hp => ⟨(N' p (.tail _ (.tail _ (.tail _ (.tail _ (.tail _ (sub p hp))))))).1, (N' p (.tail _ (.tail _ (.tail _ (.tail _ (.tail _ (sub p hp))))))).2.2⟩) (N' _ (.head _)).2.2 (N' _ (.tail _ (.head _))).2.2 (N' _ (.tail _ (.tail _ (.head _)))).2.2
end Mine

end
section -- R1n
set_option maxRecDepth 100000
set_option maxHeartbeats 1000000
set_option linter.unusedVariables false
namespace Mine
open PySem PySem.W PySem.Calls PyProof.Rows
theorem DatAll.strs {nl : List (Addr × Obj)} : ∀ {vs : List Value} {ds : List Dat}, DatAll nl vs ds → (∀ d ∈ ds, ∃ x, d = .str x) → DatAll [] vs ds
  | [], _, h, _ => by cases h; exact .nil
  | v :: vs, _, h, hs => by
    cases h with
    | cons h k =>
      refine .cons ?_ (DatAll.strs k fun d hd => hs d (.tail _ hd))
      obtain ⟨x, rfl⟩ := hs _ (.head _)
      cases h
      exact .str _ _
theorem Row.strs (r : Row) : ∀ d ∈ r.dats, ∃ x, d = .str x := by
  cases r <;> · intro d hd; simp only [Row.dats, List.mem_cons, List.not_mem_nil, or_false] at hd; rcases hd with rfl | rfl | rfl <;> exact ⟨_, rfl⟩
theorem RowsAll.ofDat {S : Heap} {nl : List (Addr × Obj)} (hS : ∀ p ∈ nl, S.get? p.1 = some p.2) : ∀ {vs : List Value} {rs : List Row}, DatAll nl vs (rs.map rowD) → (∀ r ∈ rs, r.ok) → RowsAll S vs rs
  | _, [], h, _ => by cases h; exact .nil
  | _, r :: rs, h, ho => by
    rw [List.map_cons] at h
    cases h with
    | cons h k =>
      rw [rowD] at h
      cases h with
      | list hm hd => exact .cons (hS _ hm) (DatAll.strs hd r.strs) (ho _ (.head _)) (RowsAll.ofDat hS k fun r hr => ho r (.tail _ hr))
theorem DatAll.take {nl : List (Addr × Obj)} : ∀ {n : Nat} {vs : List Value} {ds : List Dat}, DatAll nl vs ds → DatAll nl (vs.take n) (ds.take n)
  | 0, _, _, _ => .nil
  | n + 1, _, _, .nil => .nil
  | n + 1, _, _, .cons h k => .cons h (DatAll.take k)
theorem DatAll.drop {nl : List (Addr × Obj)} : ∀ {n : Nat} {vs : List Value} {ds : List Dat}, DatAll nl vs ds → DatAll nl (vs.drop n) (ds.drop n)
  | 0, _, _, h => h
  | n + 1, _, _, .nil => .nil
  | n + 1, _, _, .cons h k => DatAll.drop (n := n) k
mutual
theorem DatIn.notb {nl nl' : List (Addr × Obj)} (hs : ∀ p ∈ nl, ¬ isTb p.2 → p ∈ nl') : ∀ {v : Value} {d : Dat}, DatIn nl v d → DatIn nl' v d
  | _, _, .none => .none
  | _, _, .bool b => .bool b
  | _, _, .int i t => .int i t
  | _, _, .str x t => .str x t
  | _, _, .bytes b t => .bytes b t
  | _, _, .tuple h r => .tuple (hs _ h (notTb (by simp))) (DatAll.notb hs r)
  | _, _, .list h r => .list (hs _ h notTbL) (DatAll.notb hs r)
theorem DatAll.notb {nl nl' : List (Addr × Obj)} (hs : ∀ p ∈ nl, ¬ isTb p.2 → p ∈ nl') : ∀ {vs : List Value} {ds : List Dat}, DatAll nl vs ds → DatAll nl' vs ds
  | _, _, .nil => .nil
  | _, _, .cons h r => .cons (DatIn.notb hs h) (DatAll.notb hs r)
end
/-- rows without the p-th -/
def less (p : Nat) (rs : List Row) : List Row := rs.take p ++ rs.drop (p + 1)
theorem less_dat {nl : List (Addr × Obj)} {vs : List Value} {rs : List Row} {p : Nat} (h : DatAll nl vs (rs.map rowD)) : DatAll nl (vs.take p ++ vs.drop (p + 1)) ((less p rs).map rowD) := by
  rw [less, List.map_append, List.map_take, List.map_drop]
  exact DatAll.append (DatAll.take h) (DatAll.drop h)
theorem less_ok {rs : List Row} {p : Nat} (h : ∀ r ∈ rs, r.ok) : ∀ r ∈ less p rs, r.ok := fun r hr => by
  rcases List.mem_append.mp hr with z | z
  · exact h r (List.mem_of_mem_take z)
  · exact h r (List.mem_of_mem_drop z)
theorem less_len {rs : List Row} {p : Nat} (h : p < rs.length) : (less p rs).length + 1 = rs.length := by
  rw [less, List.length_append, List.length_take, List.length_drop]; omega
theorem less_starts {rs : List Row} {p : Nat} {f : Flt} (h : Starts rs) (hf : firstF st0 rs = some (p, f)) : Starts (less p rs) := by
  obtain ⟨s, t, rfl⟩ := h
  cases p with
  | zero =>
    exfalso
    unfold firstF at hf
    have e : fault st0 (.head s) = none := by rw [fault, if_neg]; exact List.not_mem_nil
    rw [e] at hf
    dsimp only at hf
    cases z : firstF (next st0 (.head s)) t with
    | none => rw [z] at hf; cases hf
    | some q => rw [z] at hf; simp at hf
  | succ p => exact ⟨s, t.take p ++ t.drop (p + 1), rfl⟩
/-- where the readings stand behind i turns -/
structure LogAt (rs0 : List Row) (i : Nat) (rs : List Row) (lg : List (Nat × Flt)) : Prop where
  eq1 : (dueT st0 1 rs0).1 = (dueT st0 1 rs).1
  eq2 : (dueT st0 1 rs0).2 = lg ++ (dueT st0 1 rs).2
  ok : ∀ r ∈ rs, r.ok
  st : Starts rs
  ln : rs.length + i = rs0.length
  ll : lg.length = i
  fo : rs0.length ≤ 22 → ∀ x ∈ lg, x.2.ok ∧ x.1 ≤ 22
theorem LogAt.start {rs : List Row} (ho : ∀ r ∈ rs, r.ok) (hs : Starts rs) : LogAt rs 0 rs [] := ⟨rfl, rfl, ho, hs, rfl, rfl, fun _ _ z => absurd z List.not_mem_nil⟩
theorem LogAt.turn {rs0 rs : List Row} {i p : Nat} {lg : List (Nat × Flt)} {f : Flt} (h : LogAt rs0 i rs lg) (hf : firstF st0 rs = some (p, f)) : p < rs.length ∧ LogAt rs0 (i + 1) (less p rs) (lg ++ [(p + 1, f)]) := by
  obtain ⟨a, b⟩ := firstF_some (n := 1) hf
  refine ⟨a, ?_, ?_, less_ok h.ok, less_starts h.st hf, ?_, ?_, ?_⟩
  · rw [h.eq1, b]; rfl
  · rw [h.eq2, b, Nat.add_comm 1 p]; simp [less]
  · have := less_len a; have := h.ln; omega
  · rw [List.length_append, h.ll]; rfl
  · intro hl x hx
    rcases List.mem_append.mp hx with z | z
    · exact h.fo hl x z
    · rw [List.mem_singleton.mp z]
      have := h.ln
      exact ⟨fault_ok h.st h.ok hf, by show p + 1 ≤ 22; omega⟩
theorem LogAt.fin {rs0 rs : List Row} {i : Nat} {lg : List (Nat × Flt)} (h : LogAt rs0 i rs lg) (hf : firstF st0 rs = none) : (dueT st0 1 rs0).1 = rs ∧ (dueT st0 1 rs0).2 = lg := by
  have e := firstF_none (n := 1) hf
  rw [h.eq1, h.eq2, e]
  exact ⟨rfl, List.append_nil _⟩
theorem LogAt.never {rs0 rs : List Row} {lg : List (Nat × Flt)} (h : LogAt rs0 rs0.length rs lg) : False := by
  obtain ⟨s, t, e⟩ := h.st
  have := h.ln
  rw [e, List.length_cons] at this
  omega
section
variable {prog : Program} {w : World} {A : Around} {E : Value → Shared → Prop} {s : Shared} {loose : List Str} {mean : ExcName → Option Value} {mg mb : Str → Option Value} {L : Addr} {m : Str → Option Value} {news : List (Addr × Obj)} {g : Heap} {env : Env}
theorem notTbL' {xs : Array Value} {n : Nat} : ¬ isTb (listOf xs n) := notTbL
/-- `_law_fault` as a step of the law's walk -/
theorem fault_K {Q : Value → Shared → Prop} {rs : List Row} {vs : List Value} {q : Addr} {nq : Nat} (hR : RowsAll s.heap vs rs) (hq : (q, listOf vs.toArray nq) ∈ news) (hlen : rs.length ≤ 22) (hs0 : Starts rs)
    (X : (hd.heap_39 w.params).In g) (T : Top hd.view_39 loose mean mg mb g) (hA : A.frames = some [env]) (hdp : A.depth ≤ 700) (hun : A.units ≤ 7000) (hh : A.handled = none) (hf : env.frame = some L) (hke : env.scope.kind = .function)
    (F : Fr g L s.heap m) (N : News g L s.heap news) (hnt : ∀ p ∈ news, ¬ isTb p.2)
    (h0 : firstF st0 rs = none → ∀ h' tk', Fr g L h' m → News g L h' news → Q .none { s with heap := h', toks := tk' })
    (h1 : ∀ p f, firstF st0 rs = some (p, f) → ∀ h' D D2 vals nl t tk', Fr g L h' m → News g L h' ((D, listOf [Value.int p t, .ref D2].toArray 0) :: (D2, listOf vals.toArray 0) :: (nl ++ news)) → DatAll nl vals (fltDats (p + 1) f) →
      (∀ x ∈ (D, listOf [Value.int p t, .ref D2].toArray 0) :: (D2, listOf vals.toArray 0) :: nl, ¬ isTb x.2 ∧ ∀ y ∈ news, @Ne Nat x.1 y.1) → Q (.ref D) { s with heap := h', toks := tk' }) :
    wpAny (model prog w) A (call (.ref 139) [.ref q]) Q E s := by
  have hbL : g.get? L = none := Heap.get?_none_of_le F.above
  have hff : s.heap.FunFrames g [env] := .cons (by rw [hke]; decide) hf F.ns hbL trivial
  have onlyL : ∀ b, @Ne Nat b L → b ∉ [env].filterMap (·.frame) := fun b hb z => by
    rw [List.filterMap_cons, hf] at z
    rcases List.mem_cons.mp z with z | z
    · exact hb z
    · cases z
  have fresh : ∀ b, s.heap.get? b = none → b ≠ L ∧ g.get? b = none := fun b hb => by
    refine ⟨fun z => ?_, ?_⟩
    · obtain ⟨o, _, _, ho, _⟩ := F.ns
      rw [z, ho] at hb; cases hb
    · cases z : g.get? b with
      | none => rfl
      | some o => rw [F.keep _ _ z] at hb; cases hb
  have nlL : ∀ b xs n, s.heap.get? b = some (listOf xs n) → @Ne Nat b L := fun b xs n hb z => by
    obtain ⟨o, kv, e1, ho, hd⟩ := F.ns
    rw [z, ho] at hb
    injection hb with hb
    have hd := hd.1
    rw [hb] at hd
    cases hd
  refine wpAny_call (fault_code (base := g) (l := [env]) hR (N _ hq).1 hlen F.keep hff X T hA hdp hun hh hs0 ?_ (fun b xs n hb => onlyL b (nlL b xs n hb)) ?_ ?_)
  · exact Nat.le_of_lt (Nat.lt_of_le_of_lt F.above F.ns.lt)
  · intro hn h' tk' k
    exact h0 hn h' tk' ⟨F.ns.keeps k, fun b o q => k b o (F.keep b o q), F.above⟩ fun p hp => ⟨k _ _ (N p hp).1, (N p hp).2⟩
  · intro p f hpf h' D D2 vals nl t tk' K st eD eD2 hda hnl nD nD2
    have memL : L ∈ [env].filterMap (·.frame) := by rw [List.filterMap_cons, hf]; exact .head _
    have nw : ∀ b o, New s.heap b → h'.get? b = some o → ¬ isTb o → h'.get? b = some o ∧ b ≠ L ∧ g.get? b = none := fun b o hb ho hn => by
      refine ⟨ho, fun z => hb.frames hff (z ▸ memL), ?_⟩
      cases z : g.get? b with
      | none => rfl
      | some o2 =>
        have k1 := hb o2 (F.keep _ _ z)
        have k2 := st _ _ z
        rw [ho] at k2; injection k2 with k2
        exact absurd (k2 ▸ k1) hn
    refine h1 p f hpf h' D D2 vals nl t tk' ⟨K.ns F.ns List.not_mem_nil, fun b o z => st b o z, F.above⟩ (fun x hx => ?_) hda (fun x hx => ?_)
    · rcases List.mem_cons.mp hx with rfl | hx
      · exact nw _ _ nD eD notTbL
      rcases List.mem_cons.mp hx with rfl | hx
      · exact nw _ _ nD2 eD2 notTbL
      rcases List.mem_append.mp hx with hx | hx
      · exact nw _ _ (hnl x hx).2.1 (hnl x hx).1 (hnl x hx).2.2
      · exact ⟨K.get (N x hx).1 List.not_mem_nil (hnt x hx) (onlyL _ (N x hx).2.1), (N x hx).2⟩
    · rcases List.mem_cons.mp hx with rfl | hx
      · exact ⟨notTbL, fun y hy => nD.ne (N y hy).1 (hnt y hy)⟩
      rcases List.mem_cons.mp hx with rfl | hx
      · exact ⟨notTbL, fun y hy => nD2.ne (N y hy).1 (hnt y hy)⟩
      · exact ⟨(hnl x hx).2.2, fun y hy => (hnl x hx).2.1.ne (N y hy).1 (hnt y hy)⟩

/-- `_law_due` as a step of the law's walk -/
theorem due_K1 {Q : Value → Shared → Prop} {rs : List Row} {vs : List Value} {q : Addr} {nq : Nat} (hR : RowsAll s.heap vs rs) (hq : (q, listOf vs.toArray nq) ∈ news) (hlen : rs.length ≤ 22) (hs0 : Starts rs)
    (X : (hd.heap_39 w.params).In g) (T : Top hd.view_39 loose mean mg mb g) (hA : A.frames = some [env]) (hdp : A.depth ≤ 700) (hun : A.units ≤ 7000) (hh : A.handled = none) (hf : env.frame = some L) (hke : env.scope.kind = .function)
    (F : Fr g L s.heap m) (N : News g L s.heap news)
    (h : ∀ h' D DK DL kv gv nk ng nl tk', Fr g L h' m → News g L h' ((D, listOf [Value.ref DK, .ref DL].toArray 0) :: (DK, listOf kv.toArray nk) :: (DL, listOf gv.toArray ng) :: (nl ++ news)) → DatAll nl kv ((dueT st0 1 rs).1.map rowD) → DatAll nl gv ((dueT st0 1 rs).2.map fltD) →
      (∀ x ∈ nl, ¬ isTb x.2) → Q (.ref D) { s with heap := h', toks := tk' }) :
    wpAny (model prog w) A (call (.ref 153) [.ref q]) Q E s := by
  have hbL : g.get? L = none := Heap.get?_none_of_le F.above
  have hff : s.heap.FunFrames g [env] := .cons (by rw [hke]; decide) hf F.ns hbL trivial
  have fresh : ∀ b, s.heap.get? b = none → b ≠ L ∧ g.get? b = none := fun b hb => by
    refine ⟨fun z => ?_, ?_⟩
    · obtain ⟨o, _, _, ho, _⟩ := F.ns
      rw [z, ho] at hb; cases hb
    · cases z : g.get? b with
      | none => rfl
      | some o => rw [F.keep _ _ z] at hb; cases hb
  refine wpAny_call (due_code (base := g) (l := [env]) hR (N _ hq).1 hlen F.keep hff X T hA hdp hun hh hs0 ?_)
  intro h' D DK DL kv gv nk ng nl tk' k1 k2 k3 k4 d1 d2 k5 f1 f2 f3
  open Classical in
  have d1' : DatAll (nl.filter fun p => decide (¬ isTb p.2)) kv _ := DatAll.notb (fun p hp hn => List.mem_filter.mpr ⟨hp, decide_eq_true hn⟩) d1
  open Classical in
  have d2' : DatAll (nl.filter fun p => decide (¬ isTb p.2)) gv _ := DatAll.notb (fun p hp hn => List.mem_filter.mpr ⟨hp, decide_eq_true hn⟩) d2
  refine h h' D DK DL kv gv nk ng _ tk' ⟨F.ns.keeps k1, fun b o q => k1 b o (F.keep b o q), F.above⟩ (fun p hp => ?_) d1' d2' (fun x hx => of_decide_eq_true (List.mem_filter.mp hx).2)
  rcases List.mem_cons.mp hp with rfl | hp
  · exact ⟨k2, fresh _ f1⟩
  rcases List.mem_cons.mp hp with rfl | hp
  · exact ⟨k3, fresh _ f2⟩
  rcases List.mem_cons.mp hp with rfl | hp
  · exact ⟨k4, fresh _ f3⟩
  rcases List.mem_append.mp hp with hp | hp
  · have hp := (List.mem_filter.mp hp).1
    exact ⟨(k5 p hp).1, fresh _ (k5 p hp).2⟩
  · exact ⟨k1 _ _ (N p hp).1, (N p hp).2⟩
end
theorem pick_take {vs : List Value} {p : Nat} : (slicePick vs.toArray none (some (p : Int)) none).toList = vs.take p := by
  have e : sliceBounds none (some (p : Int)) none vs.toArray.size = (((0 : Nat) : Int), ((min p vs.toArray.size : Nat) : Int), 1) := by
    simp only [sliceBounds, Option.getD_none, show (1 : Int) > 0 by decide, if_true, if_neg (show ¬ ((p : Int) < 0) by omega)]
    congr 1
    congr 1
    omega
  rw [kmk_pick_nat _ e]
  show (vs.drop 0).take (min p vs.toArray.size - 0) = _
  rw [List.drop_zero, Nat.sub_zero, List.size_toArray, kmk_take_min]
theorem pick_drop {vs : List Value} {p : Nat} : (slicePick vs.toArray (some ((p : Int) + 1)) none none).toList = vs.drop (p + 1) := by
  have e : sliceBounds (some ((p : Int) + 1)) none none vs.toArray.size = (((min (p + 1) vs.toArray.size : Nat) : Int), ((vs.toArray.size : Nat) : Int), 1) := by
    simp only [sliceBounds, Option.getD_none, show (1 : Int) > 0 by decide, if_true, if_neg (show ¬ ((p : Int) + 1 < 0) by omega)]
    congr 1
    omega
  rw [kmk_pick_nat _ e]
  show (vs.drop (min (p + 1) vs.toArray.size)).take (vs.toArray.size - min (p + 1) vs.toArray.size) = _
  rw [List.size_toArray, kmk_drop_min, List.take_of_length_le (by rw [List.length_drop]; omega)]
theorem strOk_app {a b : Str} (ha : PyData.strOk a = true) (hb : PyData.strOk b = true) : PyData.strOk (a ++ b) = true := by
  unfold PyData.strOk at *
  show Array.all (a.cps ++ b.cps) _ = true
  rw [Array.all_append, ha, hb]; rfl
theorem ok_quo {x : Str} (h : PyData.strOk x = true) : PyData.strOk (quo x) = true := by
  unfold quo
  split
  · decide +kernel
  · exact strOk_app (strOk_app (by decide +kernel) h) (by decide +kernel)
theorem ok_line : ∀ n ∈ List.range 23, PyData.strOk (lineT n) = true := by decide +kernel
theorem ok_words {n : Nat} {f : Flt} (hn : n ≤ 22) (h : f.ok) : PyData.strOk (wordsOf n f) = true := by
  have hl := ok_line n (List.mem_range.mpr (by omega))
  cases f with
  | ds s => exact strOk_app (strOk_app (strOk_app (strOk_app (by decide +kernel) hl) (by decide +kernel)) (ok_quo (ok_sec _ h))) (by decide +kernel)
  | dop s o => exact strOk_app (strOk_app (strOk_app (strOk_app (strOk_app (strOk_app (by decide +kernel) hl) (by decide +kernel)) (ok_quo (ok_opt _ h.2))) (by decide +kernel)) (ok_quo (ok_sec _ h.1))) (by decide +kernel)
  | ns s => exact strOk_app (by decide +kernel) (ok_quo (ok_sec _ h))
  | no o s => exact strOk_app (strOk_app (strOk_app (by decide +kernel) (ok_quo (ok_opt _ h.1))) (by decide +kernel)) (ok_quo (ok_sec _ h.2))
theorem ok_row {r : Row} (h : r.ok) : kqdOk 7 (rowD r) = true := by
  cases r with
  | head s => have := ok_sec s h; simp only [kqdOk, rowD, Row.dats, List.all_cons, List.all_nil, Bool.and_true, Bool.and_eq_true] at this ⊢; exact ⟨by decide +kernel, this, by decide +kernel⟩
  | opt o => have := ok_opt o h; simp only [kqdOk, rowD, Row.dats, List.all_cons, List.all_nil, Bool.and_true, Bool.and_eq_true] at this ⊢; exact ⟨by decide +kernel, this, by decide +kernel⟩
  | look o s => have a := ok_opt o h.1; have b := ok_sec s h.2; simp only [kqdOk, rowD, Row.dats, List.all_cons, List.all_nil, Bool.and_true, Bool.and_eq_true] at a b ⊢; exact ⟨by decide +kernel, a, b⟩
theorem ok_flt {x : Nat × Flt} (hn : x.1 ≤ 22) (h : x.2.ok) : kqdOk 7 (fltD x) = true := by
  obtain ⟨n, f⟩ := x
  have hw := ok_words hn h
  dsimp only at hw h
  simp only [kqdOk, fltD, fltDats, List.all_cons, List.all_nil, Bool.and_true, Bool.and_eq_true]
  refine ⟨?_, hw, ?_⟩
  · cases f
    · exact (by decide +kernel : PyData.strOk ("section" : Str) = true)
    · exact (by decide +kernel : PyData.strOk ("option" : Str) = true)
    · exact (by decide +kernel : PyData.strOk ("no section" : Str) = true)
    · exact (by decide +kernel : PyData.strOk ("no option" : Str) = true)
  · cases f with
    | ds s => have a := ok_sec s h; simp only [kqdOk, argsOf, List.all_cons, List.all_nil, Bool.and_true, Bool.and_eq_true] at a ⊢; exact ⟨a, by decide +kernel⟩
    | dop s o => have a := ok_sec s h.1; have b := ok_opt o h.2; simp only [kqdOk, argsOf, List.all_cons, List.all_nil, Bool.and_true, Bool.and_eq_true] at a b ⊢; exact ⟨a, b, by decide +kernel⟩
    | ns s => have a := ok_sec s h; simp only [kqdOk, argsOf, List.all_cons, List.all_nil, Bool.and_true, Bool.and_eq_true] at a ⊢; exact a
    | no o s => have a := ok_sec s h.2; have b := ok_opt o h.1; simp only [kqdOk, argsOf, List.all_cons, List.all_nil, Bool.and_true, Bool.and_eq_true] at a b ⊢; exact ⟨b, a⟩
theorem ok_all {rs : List Row} {lg : List (Nat × Flt)} (h1 : ∀ r ∈ rs, r.ok) (h2 : ∀ x ∈ lg, x.2.ok ∧ x.1 ≤ 22) : ∀ d ∈ [Dat.list (rs.map rowD), Dat.list (lg.map fltD)], kqdOk 8 d = true := by
  intro d hd
  rcases List.mem_cons.mp hd with rfl | hd
  · rw [kqdOk, List.all_eq_true]
    intro x hx
    obtain ⟨r, hr, rfl⟩ := List.mem_map.mp hx
    exact ok_row (h1 r hr)
  · rw [List.mem_singleton.mp hd, kqdOk, List.all_eq_true]
    intro x hx
    obtain ⟨r, hr, rfl⟩ := List.mem_map.mp hx
    exact ok_flt (h2 r hr).2 (h2 r hr).1
end Mine

end
section -- R1o
set_option maxRecDepth 100000
set_option maxHeartbeats 1000000
set_option linter.unusedVariables false
namespace Mine
open PySem PySem.W PySem.Calls PyProof.Rows PyProof.V
section
variable {prog : Program} {w : World} {A : Around} {E : Value → Shared → Prop} {s : Shared} {env : Env} {h₀ : Heap} {x : Str} {body : List Stmt} {Q : Flow → Shared → Prop}
/-- a loop over a list of the ledger; the ledger may grow -/
theorem iter_invGL {l : Addr} {vs : List Value} {ns : List Int} {nn : Nat} {m₀ : Str → Option Value} {news : List (Addr × Obj)} (J : Nat → (Str → Option Value) → List (Addr × Obj) → Prop)
    (hh : A.handled = none) (hl : (l, listOf vs.toArray nn) ∈ news) (hi : IntsAre vs ns) (F : Fr h₀ env.locals s.heap m₀) (N : News h₀ env.locals s.heap news) (hj : J 0 m₀ news) (hJl : ∀ i m nx, J i m nx → (l, listOf vs.toArray nn) ∈ nx)
    (turn : ∀ i n t m₁ news₁ h tk I oI, ns[i]? = some n → oI.cls ≠ .type "traceback" → (∀ p ∈ news₁, p.1 ≠ I) → J i m₁ news₁ → Fr h₀ env.locals h (fun y => if y = x then some (.int n t) else m₁ y) → News h₀ env.locals h ((I, oI) :: news₁) →
      wpAny (model prog w) A (execs body env) (PostL h₀ env.locals (J (i + 1)) I oI { s with heap := h, toks := tk } Q) E { s with heap := h, toks := tk })
    (done : ∀ m₁ news₁ h tk, J ns.length m₁ news₁ → Fr h₀ env.locals h m₁ → News h₀ env.locals h news₁ → Q .next { s with heap := h, toks := tk }) :
    wpAny (model prog w) A (pyIter (.ref l)) (fun it s₂ => LoopAtV prog w A h₀ env x body Q E it s₂) E s := by
  have hol : s.heap.get? l = some (listOf vs.toArray nn) := (N _ hl).1
  have hls : s.heap.IsList l vs.toArray := ⟨_, hol, rfl, nn, rfl⟩
  have hne : l ≠ s.heap.objs.size := Nat.ne_of_lt (Heap.lt_size hol)
  refine wpAny_pyIter_list hls ?_
  have W := Walks.list (prog := prog) (w := w) hh s.heap.objs.size l hne vs.toArray
  have hlen : vs.toArray.size = ns.length := by simp [hi.length]
  rw [hlen] at W
  refine ⟨_, _, _, ns.length, _, _, m₀, news, J, rfl, W, ?_, ?_, ?_, ⟨⟨_, Heap.get?_push_size _ rfl, rfl, rfl⟩, hls.at fun o e => Heap.get?_push_of_some _ e⟩, F.push _, (fun p hp => ⟨Heap.get?_push_of_some _ (N p hp).1, (N p hp).2⟩), hj, ?_, ?_⟩
  · intro hm
    rcases List.mem_cons.mp hm with e | hm
    · exact absurd F.ns.lt (e ▸ Nat.lt_irrefl _)
    · exact (N _ hl).2.1 ((List.mem_singleton.mp hm).symm)
  · intro b hb
    rw [List.mem_singleton.mp hb]
    exact next_is_new F
  · intro p hp hI
    exact absurd (Heap.lt_size (N p hp).1) ((List.mem_singleton.mp hI) ▸ Nat.lt_irrefl _)
  · rintro i v m₁ news₁ s₁ own ⟨hh', tk', rfl⟩ hin hP hJ hoff hown hget hfp hst F₁ N₁
    have hI0 : h₀.get? s.heap.objs.size = none := next_is_new F
    obtain ⟨⟨oI, hoI, hIc⟩, _⟩ := id hst
    have hIown : (s.heap.objs.size, oI) ∈ own := hfp _ (List.mem_cons.mpr (.inl rfl)) hI0 _ hoI
    have hlt' : i < ns.length := hin
    obtain ⟨t, hx⟩ := hi.get i ns[i] (by simp [hlt'])
    have hv : v = .int ns[i] t := by
      have hP' : vs[i]? = some v := by simpa using hP
      rw [hx] at hP'; exact (Option.some.inj hP').symm
    subst hv
    have hl₁ := hJl _ _ _ hJ
    have hlo : hh'.get? l = some (listOf vs.toArray nn) := (N₁ _ (List.mem_append.mpr (.inr hl₁))).1
    have N₂ : News h₀ env.locals hh' ((s.heap.objs.size, oI) :: news₁) := fun p hp => N₁ p ((List.mem_cons.mp hp).elim (fun h => List.mem_append.mpr (.inl (h ▸ hIown))) fun h => List.mem_append.mpr (.inr h))
    have hcls : oI.cls ≠ .type "traceback" := by
      intro z
      rw [hIc.1] at z
      exact absurd z (by simp)
    refine wpAny_mono (turn i ns[i] t m₁ news₁ hh' tk' s.heap.objs.size oI (by simp [hlt']) hcls (fun p hp z => hoff p hp (List.mem_singleton.mpr z)) hJ F₁ N₂) (fun f s₂ p => ?_) fun _ _ e => e
    have fin : EndL h₀ env.locals (J (i + 1)) s.heap.objs.size oI { s with heap := hh', toks := tk' } s₂ → LoopStepU h₀ env.locals [s.heap.objs.size] own (J (i + 1)) { s with heap := hh', toks := tk' } .next s₂ := by
      rintro ⟨h', tk, m', nx, e, F', N', ha, hm⟩
      refine ⟨rfl, h', tk, m', nx, e, F', fun p hp => ?_, fun p hp hq => ha p hp (List.mem_singleton.mp hq), hm⟩
      rcases List.mem_append.mp hp with h | h
      · have hg := hget p h
        simp only at hg
        rcases List.mem_cons.mp (hown p h) with h1 | h1
        · rw [h1, hoI] at hg
          have h3 : p = (s.heap.objs.size, oI) := Prod.ext h1 (Option.some.inj hg).symm
          rw [h3]; exact N' _ (.head _)
        · have h1 := List.mem_singleton.mp h1
          rw [h1, hlo] at hg
          have h3 : p = (l, listOf vs.toArray nn) := Prod.ext h1 (Option.some.inj hg).symm
          rw [h3]; exact N' _ (.tail _ (hJl _ _ _ hm))
      · exact N' p (.tail _ h)
    cases f with
    | ret v => exact .ret p
    | brk => exact .brk p
    | next => exact .next (fin p)
    | cont => exact .cont (fin p)
  · rintro h' tk m' news' F' N' _ hJ
    exact done m' news' h' tk hJ F' N'
end
end Mine
namespace Mine
open PySem PySem.W PySem.Calls PyProof.Rows
theorem fr_congr {g h : Heap} {L : Addr} {m m' : Str → Option Value} (F : Fr g L h m) (e : m = m') : Fr g L h m' := e ▸ F
theorem for_F {prog : Program} {w : World} {A : Around} {E : Value → Shared → Prop} {s : Shared} {env : Env} {h₀ : Heap} {m : Str → Option Value} {Q : Flow → Shared → Prop} {x : Str} {px pos : Pos} {iter : Expr} {body : List Stmt} (F : Fr h₀ env.locals s.heap m) (hx : env.kindOf x = some .local)
    (hp : (env.scope.kind == .class || (env.scope.kind == .module && env.locals != env.globals)) = false)
    (h : wpAny (model prog w) A (eval iter env) (fun xv s₁ => wpAny (model prog w) A (pyIter xv) (fun it s₂ => LoopAtV prog w A h₀ env x body Q E it s₂) E s₁) E s)
    (hs : ∀ x, foldedSetIterable iter env x = pure x) (hE : PassesOwn (model prog w) A env E) :
    wpAny (model prog w) A (exec (.For (.Name x px) iter body [] pos) env) Q E s := For_invV h₀ hx hp h hs hE
/-- the first loop's ledger: the rows that are built -/
structure RowsL (T : Addr) (tv : List Value) (R : Addr) (rv : List Value) (n : Nat) (rs : List Row) (i : Nat) (tl nl : List (Addr × Obj)) (m : Str → Option Value) : Prop where
  dat : DatAll nl rv (rs.map rowD)
  sub : ∀ p ∈ nl, p ∈ tl
  ok : ∀ r ∈ rs, r.ok
  st : Starts rs
  ln : rs.length = i + 2
  tm : (T, listOf tv.toArray 0) ∈ tl
  off : ∀ p ∈ tl, @Ne Nat p.1 R
  nt : ∀ p ∈ tl, ¬ isTb p.2
  mr : m "rows" = some (.ref R)
def RowsJ (T : Addr) (tv : List Value) (R : Addr) (i : Nat) (m : Str → Option Value) (nx : List (Addr × Obj)) : Prop :=
  ∃ rv n rs tl nl, nx = (R, listOf rv.toArray n) :: tl ∧ RowsL T tv R rv n rs i tl nl m
/-- a row more -/
theorem rows_end {g h : Heap} {L I T R D : Addr} {oI : Obj} {tv rv dv : List Value} {n n' i : Nat} {rs : List Row} {tl nl NW : List (Addr × Obj)} {m m' : Str → Option Value} {s₁ : Shared} {tk : Nat} {r : Row} (J : RowsL T tv R rv n rs i tl nl m) (off : ∀ p ∈ (R, listOf rv.toArray n) :: tl, p.1 ≠ I)
    (F : Fr g L h m') (N : News g L h NW) (hI : (I, oI) ∈ NW) (hR : (R, listOf (rv.toArray.push (.ref D)) n') ∈ NW) (hD : (D, listOf dv.toArray 0) ∈ NW) (ht : ∀ p ∈ tl, p ∈ NW) (nDI : @Ne Nat D I) (nDR : @Ne Nat D R) (hd : DatAll [] dv r.dats) (ho : r.ok) (mr : m' "rows" = some (.ref R)) :
    EndL g L (RowsJ T tv R (i + 1)) I oI s₁ { s₁ with heap := h, toks := tk } := by
  rw [List.push_toArray] at hR
  refine ⟨h, tk, m', (R, listOf (rv ++ [Value.ref D]).toArray n') :: (D, listOf dv.toArray 0) :: tl, rfl, F, fun p hp => N p ?_, fun p hp => ?_, rv ++ [Value.ref D], n', rs ++ [r], (D, listOf dv.toArray 0) :: tl, (D, listOf dv.toArray 0) :: nl, rfl, ?_, ?_, ?_, ?_, ?_, .tail _ J.tm, ?_, ?_, mr⟩
  · rcases List.mem_cons.mp hp with rfl | hp
    · exact hI
    rcases List.mem_cons.mp hp with rfl | hp
    · exact hR
    rcases List.mem_cons.mp hp with rfl | hp
    · exact hD
    · exact ht p hp
  · rcases List.mem_cons.mp hp with rfl | hp
    · exact off (R, listOf rv.toArray n) (.head _)
    rcases List.mem_cons.mp hp with rfl | hp
    · exact nDI
    · exact off p (.tail _ hp)
  · rw [List.map_append]
    exact DatAll.append (J.dat.mono fun p hp => .tail _ hp) (.one (.list (.head _) (hd.mono fun _ z => absurd z List.not_mem_nil)))
  · intro p hp
    rcases List.mem_cons.mp hp with rfl | hp
    · exact .head _
    · exact .tail _ (J.sub p hp)
  · intro x hx
    rcases List.mem_append.mp hx with z | z
    · exact J.ok x z
    · rw [List.mem_singleton.mp z]; exact ho
  · obtain ⟨s, t, e⟩ := J.st
    exact ⟨s, t ++ [r], by rw [e]; rfl⟩
  · rw [List.length_append, J.ln]; rfl
  · intro p hp
    rcases List.mem_cons.mp hp with rfl | hp
    · exact nDR
    · exact J.off p hp
  · intro p hp
    rcases List.mem_cons.mp hp with rfl | hp
    · exact notTbL
    · exact J.nt p hp
/-- an item of a menu -/
theorem menu_item {prog : Program} {w : World} {A : Around} {E : Value → Shared → Prop} {s : Shared} {h₀ : Heap} {L a : Addr} {news : List (Addr × Obj)} {value slice : Expr} {vs : List Value} {n : Nat} {k : Int} {u : Tok} {P : Str → Prop} {Q : Value → Shared → Prop} (N : News h₀ L s.heap news) (hm : (a, listOf vs.toArray n) ∈ news)
    (h0 : 0 ≤ k) (h1 : k < vs.length) (hz : vs.length ≤ 10) (hP : ∀ v ∈ vs, ∃ x t, v = .str x t ∧ P x) (h : ∀ x t, P x → Q (.str x t) s)
    (hs : subscripted slice false (.ref a) (.int k u) = operate [.ref a, .int k u] (getItem (.ref a) (.int k u)) := by with_unfolding_all rfl) (hg : ∀ r, letTemporaryGo value (.ref a) r = pure () := by intro _; with_unfolding_all rfl) :
    wpAny (model prog w) A (subscriptTail value slice (.ref a) (.int k u)) Q E s := by
  have hk : k.toNat < vs.length := by omega
  refine item_listL (News.isList N hm) h0 (by omega) (List.getElem?_eq_getElem hk) ?_ hs hg
  obtain ⟨x, t, e, hp⟩ := hP _ (List.getElem_mem hk)
  rw [e]
  exact h x t hp
end Mine
namespace Mine
open PySem PySem.W PyProof.Rows
theorem lookup1 (k : Str) (v : Value) : (fun y : Str => List.lookup y [(k, v)].reverse) = fun y => if y = k then some v else none := by
  funext y
  show List.lookup y [(k, v)] = _
  rw [List.lookup]
  by_cases h : y = k
  · subst h; simp
  · rw [if_neg h, show (y == k) = false from beq_false_of_ne h]; rfl
end Mine
namespace Mine
open PySem PySem.W PyProof.Rows
theorem fm_pos (z : Int) {n : Int} (h : 0 < n) : 0 ≤ z.fmod n ∧ z.fmod n < n := by
  rw [Int.fmod_eq_emod_of_nonneg _ (Int.le_of_lt h)]
  exact ⟨Int.emod_nonneg _ (Int.ne_of_gt h), Int.emod_lt_of_pos _ h⟩
section
variable {prog : Program} {w : World} {A : Around} {E : Value → Shared → Prop} {s : Shared} {h₀ : Heap} {L a : Addr} {news : List (Addr × Obj)} {value slice : Expr} {n : Nat} {z : Int} {u t1 t2 t3 : Tok} {Q : Value → Shared → Prop}
theorem menu_sec (N : News h₀ L s.heap news) (hm : (a, listOf #[Value.str "s" t1, .str "it's" t2, .str "t" t3] n) ∈ news) (h : ∀ x t, x ∈ secTexts → Q (.str x t) s)
    (hs : subscripted slice false (.ref a) (.int (z.fmod 3) u) = operate [.ref a, .int (z.fmod 3) u] (getItem (.ref a) (.int (z.fmod 3) u)) := by with_unfolding_all rfl) :
    wpAny (model prog w) A (subscriptTail value slice (.ref a) (.int (z.fmod 3) u)) Q E s := by
  have hz := fm_pos z (n := 3) (by decide)
  refine kba_turn (value' := PySem.Expr.Name (PySem.Str.ofString "_") ⟨0, 0, 0, 0⟩) (fun _ => rfl) ?_
  refine menu_item (vs := [Value.str "s" t1, .str "it's" t2, .str "t" t3]) (P := (· ∈ secTexts)) N hm hz.1 hz.2 (by simp) (fun v hv => ?_) h hs (fun _ => rfl)
  simp only [List.mem_cons, List.not_mem_nil, or_false] at hv
  rcases hv with rfl | rfl | rfl <;> exact ⟨_, _, rfl, by decide +kernel⟩
theorem menu_opt (N : News h₀ L s.heap news) (hm : (a, listOf #[Value.str "k" t1, .str "[line 9]" t2] n) ∈ news) (h : ∀ x t, x ∈ optTexts → Q (.str x t) s)
    (hs : subscripted slice false (.ref a) (.int (z.fmod 2) u) = operate [.ref a, .int (z.fmod 2) u] (getItem (.ref a) (.int (z.fmod 2) u)) := by with_unfolding_all rfl) :
    wpAny (model prog w) A (subscriptTail value slice (.ref a) (.int (z.fmod 2) u)) Q E s := by
  have hz := fm_pos z (n := 2) (by decide)
  refine kba_turn (value' := PySem.Expr.Name (PySem.Str.ofString "_") ⟨0, 0, 0, 0⟩) (fun _ => rfl) ?_
  refine menu_item (vs := [Value.str "k" t1, .str "[line 9]" t2]) (P := (· ∈ optTexts)) N hm hz.1 hz.2 (by simp) (fun v hv => ?_) h hs (fun _ => rfl)
  simp only [List.mem_cons, List.not_mem_nil, or_false] at hv
  rcases hv with rfl | rfl <;> exact ⟨_, _, rfl, by decide +kernel⟩
end
end Mine
namespace Mine
open PySem PySem.W PyProof.Rows
theorem news_swap {g h : Heap} {L : Addr} {p q : Addr × Obj} {r : List (Addr × Obj)} (N : News g L h (p :: q :: r)) : News g L h (q :: p :: r) := fun x hx => by
  rcases List.mem_cons.mp hx with rfl | hx
  · exact N _ (.tail _ (.head _))
  rcases List.mem_cons.mp hx with rfl | hx
  · exact N _ (.head _)
  · exact N _ (.tail _ (.tail _ hx))
end Mine

end
section -- R1z
set_option maxRecDepth 100000
set_option maxHeartbeats 1000000
set_option linter.unusedVariables false
namespace Mine
open PySem PySem.W PySem.Calls PyProof.Rows
/-- what `_law_due` gave -/
def Due0 (rs0 : List Row) (D : Addr) (due0 : List (Addr × Obj)) : Prop :=
  ∃ DK DL kv gv nk ng nl2, due0 = (D, listOf [Value.ref DK, .ref DL].toArray 0) :: (DK, listOf kv.toArray nk) :: (DL, listOf gv.toArray ng) :: nl2 ∧ DatAll nl2 kv ((dueT st0 1 rs0).1.map rowD) ∧ DatAll nl2 gv ((dueT st0 1 rs0).2.map fltD)
/-- the second loop's ledger -/
structure LogL (rs0 : List Row) (due0 : List (Addr × Obj)) (D Lg R : Addr) (lv rv : List Value) (rn : Nat) (rs : List Row) (lg : List (Nat × Flt)) (i : Nat) (tl nl : List (Addr × Obj)) (m : Str → Option Value) : Prop where
  here : LogAt rs0 i rs lg
  dat : DatAll nl rv (rs.map rowD)
  ldat : DatAll nl lv (lg.map fltD)
  sub : ∀ p ∈ nl, p ∈ tl
  rm : (R, listOf rv.toArray rn) ∈ tl
  keep : ∀ p ∈ due0, p ∈ tl
  off : ∀ p ∈ tl, @Ne Nat p.1 Lg
  nt : ∀ p ∈ tl, ¬ isTb p.2
  mr : m "rows" = some (.ref R)
  ml : m "log" = some (.ref Lg)
  md : m "due" = some (.ref D)
def LogJ (rs0 : List Row) (due0 : List (Addr × Obj)) (D Lg : Addr) (i : Nat) (m : Str → Option Value) (nx : List (Addr × Obj)) : Prop :=
  ∃ R rv rn rs lg lv ln tl nl, nx = (Lg, listOf lv.toArray ln) :: tl ∧ LogL rs0 due0 D Lg R lv rv rn rs lg i tl nl m
theorem log_end {g h : Heap} {L I Lg D R R' D2 : Addr} {oI : Obj} {rs0 rs : List Row} {lg : List (Nat × Flt)} {f : Flt} {p i rn ln ln' : Nat} {lv rv zs vals : List Value} {due0 tl nl nl1 NW : List (Addr × Obj)} {m m' : Str → Option Value} {s₁ : Shared} {tk : Nat}
    (J : LogL rs0 due0 D Lg R lv rv rn rs lg i tl nl m) (off : ∀ p ∈ (Lg, listOf lv.toArray ln) :: tl, p.1 ≠ I) (F : Fr g L h m') (N : News g L h NW) (hI : (I, oI) ∈ NW) (hL : (Lg, listOf (lv.toArray.push (.ref D2)) ln') ∈ NW) (hR : (R', listOf zs.toArray 0) ∈ NW)
    (hD : (D2, listOf vals.toArray 0) ∈ NW) (hn : ∀ p ∈ nl1, p ∈ NW) (ht : ∀ p ∈ tl, p ∈ NW) (fr : ∀ x ∈ (D2, listOf vals.toArray 0) :: nl1, ¬ isTb x.2 ∧ @Ne Nat x.1 I ∧ @Ne Nat x.1 Lg) (nI : @Ne Nat R' I) (nL : @Ne Nat R' Lg) (hz : zs = rv.take p ++ rv.drop (p + 1))
    (hda : DatAll nl1 vals (fltDats (p + 1) f)) (hat : LogAt rs0 (i + 1) (less p rs) (lg ++ [(p + 1, f)])) (mr : m' "rows" = some (.ref R')) (ml : m' "log" = some (.ref Lg)) (md : m' "due" = some (.ref D)) :
    EndL g L (LogJ rs0 due0 D Lg (i + 1)) I oI s₁ { s₁ with heap := h, toks := tk } := by
  rw [List.push_toArray] at hL
  subst hz
  refine ⟨h, tk, m', (Lg, listOf (lv ++ [Value.ref D2]).toArray ln') :: (R', listOf (rv.take p ++ rv.drop (p + 1)).toArray 0) :: (D2, listOf vals.toArray 0) :: (nl1 ++ tl), rfl, F, fun q hq => N q ?_, fun q hq => ?_, R', rv.take p ++ rv.drop (p + 1), 0, less p rs, lg ++ [(p + 1, f)], lv ++ [Value.ref D2], ln', (R', listOf (rv.take p ++ rv.drop (p + 1)).toArray 0) :: (D2, listOf vals.toArray 0) :: (nl1 ++ tl), (D2, listOf vals.toArray 0) :: (nl1 ++ nl), rfl, hat, ?_, ?_, ?_, .head _, ?_, ?_, ?_, mr, ml, md⟩
  · rcases List.mem_cons.mp hq with rfl | hq
    · exact hI
    rcases List.mem_cons.mp hq with rfl | hq
    · exact hL
    rcases List.mem_cons.mp hq with rfl | hq
    · exact hR
    rcases List.mem_cons.mp hq with rfl | hq
    · exact hD
    rcases List.mem_append.mp hq with hq | hq
    · exact hn q hq
    · exact ht q hq
  · rcases List.mem_cons.mp hq with rfl | hq
    · exact off (Lg, listOf lv.toArray ln) (.head _)
    rcases List.mem_cons.mp hq with rfl | hq
    · exact nI
    rcases List.mem_cons.mp hq with rfl | hq
    · exact (fr _ (.head _)).2.1
    rcases List.mem_append.mp hq with hq | hq
    · exact (fr _ (.tail _ hq)).2.1
    · exact off q (.tail _ hq)
  · exact less_dat (J.dat.mono fun q hq => .tail _ (List.mem_append_right _ hq))
  · rw [List.map_append]
    exact DatAll.append (J.ldat.mono fun q hq => .tail _ (List.mem_append_right _ hq)) (.one (.list (.head _) (hda.mono fun q hq => .tail _ (List.mem_append_left _ hq))))
  · intro q hq
    rcases List.mem_cons.mp hq with rfl | hq
    · exact .tail _ (.head _)
    rcases List.mem_append.mp hq with hq | hq
    · exact .tail _ (.tail _ (List.mem_append_left _ hq))
    · exact .tail _ (.tail _ (List.mem_append_right _ (J.sub q hq)))
  · exact fun q hq => .tail _ (.tail _ (List.mem_append_right _ (J.keep q hq)))
  · intro q hq
    rcases List.mem_cons.mp hq with rfl | hq
    · exact nL
    rcases List.mem_cons.mp hq with rfl | hq
    · exact (fr _ (.head _)).2.2
    rcases List.mem_append.mp hq with hq | hq
    · exact (fr _ (.tail _ hq)).2.2
    · exact J.off q hq
  · intro q hq
    rcases List.mem_cons.mp hq with rfl | hq
    · exact notTbL
    rcases List.mem_cons.mp hq with rfl | hq
    · exact notTbL
    rcases List.mem_append.mp hq with hq | hq
    · exact (fr _ (.tail _ hq)).1
    · exact J.nt q hq
section
variable {prog : Program} {w : World} {A : Around} {E : Value → Shared → Prop} {s : Shared} {g : Heap} {L P Lg D R : Addr} {news tl nl due0 : List (Addr × Obj)} {rs0 rs : List Row} {lg : List (Nat × Flt)} {i rn ln : Nat} {lv rv : List Value} {m : Str → Option Value} {Q : Value → Shared → Prop}
theorem due_same (N : News g L s.heap news) (J : LogL rs0 due0 D Lg R lv rv rn rs lg i tl nl m) (h0 : Due0 rs0 D due0) (hf : firstF st0 rs = none) (hlen : rs0.length ≤ 22) (mP : (P, listOf [Value.ref R, .ref Lg].toArray 0) ∈ news) (mL : (Lg, listOf lv.toArray ln) ∈ news) (ht : ∀ p ∈ tl, p ∈ news)
    (hu : A.units + 64 < cLine) (h : Q (.bool true) s) : wpAny (model prog w) A (compareOp .Eq (.ref P) (.ref D)) Q E s := by
  obtain ⟨DK, DL, kv, gv, nk, ng, nl2, rfl, dk, dg⟩ := h0
  obtain ⟨e1, e2⟩ := J.here.fin hf
  rw [e1] at dk
  rw [e2] at dg
  have hok := ok_all J.here.ok (J.here.fo hlen)
  refine kqd_eq (xs := [Value.ref R, .ref Lg]) (ds := [.list (rs.map rowD), .list (lg.map fltD)]) (n₁ := (R, listOf rv.toArray rn) :: (Lg, listOf lv.toArray ln) :: nl) (ys := [Value.ref DK, .ref DL]) (es := [.list (rs.map rowD), .list (lg.map fltD)]) (n₂ := (DK, listOf kv.toArray nk) :: (DL, listOf gv.toArray ng) :: nl2)
    N mP rfl rfl (.cons (.list (.head _) (J.dat.mono fun q hq => .tail _ (.tail _ hq))) (.cons (.list (.tail _ (.head _)) (J.ldat.mono fun q hq => .tail _ (.tail _ hq))) .nil)) ?_ (ht _ (J.keep _ (.head _))) rfl rfl (.cons (.list (.head _) (dk.mono fun q hq => .tail _ (.tail _ hq))) (.cons (.list (.tail _ (.head _)) (dg.mono fun q hq => .tail _ (.tail _ hq))) .nil)) ?_ hok hok hu ?_
  · intro q hq
    rcases List.mem_cons.mp hq with rfl | hq
    · exact ht _ J.rm
    rcases List.mem_cons.mp hq with rfl | hq
    · exact mL
    · exact ht _ (J.sub q hq)
  · intro q hq
    exact ht _ (J.keep _ (.tail _ hq))
  · simpa using h
end
theorem news_four {g h : Heap} {L : Addr} {a b : Addr × Obj} {n tl : List (Addr × Obj)} {c d : Addr × Obj} (N : News g L h (a :: b :: (n ++ c :: d :: tl))) : News g L h (a :: b :: c :: d :: (n ++ tl)) := fun x hx => N x (by
  simp only [List.mem_cons, List.mem_append] at hx ⊢
  rcases hx with h | h | h | h | h | h <;> simp [h])
end Mine

end
open PySem PySem.W PyProof.Rows Mine
set_option maxRecDepth 100000
set_option maxHeartbeats 2000000
set_option linter.unusedVariables false
section Law
local macro_rules | `(tactic| k_all) => `(tactic| assumption)
theorem PySem.Challenge.cw_dv0002_01_holds : PySem.Challenge.rw_dv0002_01.Holds := by
  refine Mine.hd.ofLaw ?_
  k_go0
  all_goals try k_fold
  (rename Fr _ _ _ _ => FF)
  replace FF := fr_congr FF (lookup1 _ _)
  repeat' ((fail_if_success (with_reducible show wpAny _ _ (exec (Stmt.For _ _ _ _ _) _) _ _ _)); first | (k_unfold; (try dsimp only)) | (k_end; wrow_close) | walk1 | (dsimp only; walk1) | (dsimp only [List.nil_append, List.cons_append]; walk1) | (leave1; walk_say "STEP leave1"; try dsimp only) | fail "no step")
  rename_i a0 g1 l1 b0 g2 l2 R g3 l3 h4 F4 N4
  rename_i w s₀ s₁ mg mb GR Y fa o pm doc kV ho hg KX X V GL T B TE TW wa wo M w8 w7 hcd ns hs hlay0 hL1 hr1 hl2 w5 w4 S vs w1 hL ra w1x r0 hI hr hc1 hcT K0 hD h₁
  clear hD hcd hcT hr r0 w1x hs hlay0 hL1 hr1 hl2 GR Y V TE TW B X GL M
  have hc2 : ns.length ≤ 63 := by omega
  refine for_F (h₀ := s₁.heap) F4 (by rfl) (by rfl) ?_ (by intro _; rfl) (by passes_own)
  repeat' ((fail_if_success (with_reducible show wpAny _ _ (subscriptTail _ _ _ _) _ _ _)); first | (with_reducible refine execs_one ?_; (try dsimp only)) | (walk1; (try dsimp only)) | (dsimp only; walk1) | (dsimp only [List.nil_append, List.cons_append]; walk1) | fail "no step")
  k_dflt (refine' kmk_slice_ints (s := { heap := h4, gens := s₁.gens, drawn := s₁.drawn, toks := _, os := s₁.os }) F4 N4 (Heap.IsList.at hL fun o e => F4.keep _ _ e) ?z1 ?z2 hI (kmk_upto (y := 20) hI (by decide)) rfl ?_ ?z3 ?z4 ?z5; (case z1 => kmk_part); (case z2 => kmk_part); (case z3 => with_unfolding_all rfl); (case z4 => kmk_pure); (case z5 => rw [List.size_toArray, hI.length, sizeLine_eq]; omega))
  intro T6 ws h6 F6 N6 l6 hI6 _ hl6
  dsimp only
  have lRT := l6 (R, _) (.head _)
  have lbT := l6 (b0, _) (.tail _ (.head _))
  have laT := l6 (a0, _) (.tail _ (.tail _ (.head _)))
  have hl20 : (ns.take 20).length ≤ 20 := by rw [List.length_take]; omega
  refine iter_invGL (RowsJ T6 ws R) rfl (l := T6) (vs := ws) (nn := 0) (.tail _ (.head _)) hI6 F6 (news_swap N6) ?j0 ?jl ?turn ?done
  case j0 =>
    refine ⟨[Value.ref a0, .ref b0], 0, [.head "s", .look "k" "t"], _, _, rfl, .cons (.list (.tail _ (.tail _ (.head _))) (.cons (.str _ _) (.cons (.str _ _) (.cons (.str _ _) .nil)))) (.cons (.list (.tail _ (.head _)) (.cons (.str _ _) (.cons (.str _ _) (.cons (.str _ _) .nil)))) .nil), fun p hp => hp, ?_, ⟨_, _, rfl⟩, rfl, .head _, ?_, ?_, rfl⟩
    · intro r hr
      simp only [List.mem_cons, List.not_mem_nil, or_false] at hr
      rcases hr with rfl | rfl
      · show _ ∈ secTexts; decide +kernel
      · exact ⟨by decide +kernel, by decide +kernel⟩
    · intro p hp
      simp only [List.mem_cons, List.not_mem_nil, or_false] at hp
      rcases hp with rfl | rfl | rfl
      · exact Nat.ne_of_gt lRT
      · exact Nat.ne_of_lt l3.1
      · exact Nat.ne_of_lt l3.2
    · intro p hp
      simp only [List.mem_cons, List.not_mem_nil, or_false] at hp
      rcases hp with rfl | rfl | rfl <;> exact notTbL
  case jl =>
    rintro i m nx ⟨rv, n, rs, tl, nl, rfl, J⟩
    exact .tail _ J.tm
  case turn =>
    rintro i g t m₁ news₁ h3 tk3 I oI hgi hIc hIoff ⟨rv, n, rs, tl, nl, rfl, J⟩ F3 N3
    replace F3 : Fr s₁.heap s₁.heap.objs.size h3 (fun y => if y = "x" then some (.int g t) else m₁ y) := F3
    replace N3 : News s₁.heap s₁.heap.objs.size h3 ((I, oI) :: (R, PySem.W.listOf rv.toArray n) :: tl) := N3
    have hi : i < (ns.take 20).length := (List.getElem?_eq_some_iff.mp hgi).1
    have hrl : rv.length = i + 2 := by rw [J.dat.length, List.length_map, J.ln]
    have hIR : @Ne Nat I R := Ne.symm (hIoff _ (.head _))
    have uR := fun (o' : Obj) => (Upd.tail hIR (Upd.head (o' := o') J.off) : Upd R (PySem.W.listOf rv.toArray n) o' ((I, oI) :: (R, PySem.W.listOf rv.toArray n) :: tl) ((I, oI) :: (R, o') :: tl))
    have mr := J.mr
    have hsR : @Ne Nat h3.objs.size R := Nat.ne_of_gt (Heap.lt_size (N3 _ (.tail _ (.head _))).1)
    clear F6 N6 F4 N4 l6 hI6 l3 l2 l1
    repeat' (first | (with_reducible refine execs_one ?_; (try dsimp only)) | (((first | (with_reducible show wpAny _ _ (eval (PySem.Expr.Name (PySem.Str.ofString "rows") _) _) _ _ _) | (with_reducible show wpAny _ _ (eval (PySem.Expr.Name (PySem.Str.ofString "script") _) _) _ _ _) | (with_reducible show wpAny _ _ (eval (PySem.Expr.Name (PySem.Str.ofString "section") _) _) _ _ _) | (with_reducible show wpAny _ _ (eval (PySem.Expr.Name (PySem.Str.ofString "option") _) _) _ _ _) | (with_reducible show wpAny _ _ (eval (PySem.Expr.Name (PySem.Str.ofString "x") _) _) _ _ _) | (with_reducible show wpAny _ _ (eval (PySem.Expr.Name (PySem.Str.ofString "rest") _) _) _ _ _) | (with_reducible show wpAny _ _ (eval (PySem.Expr.Name (PySem.Str.ofString "kind") _) _) _ _ _) | (with_reducible show wpAny _ _ (eval (PySem.Expr.Name (PySem.Str.ofString "log") _) _) _ _ _) | (with_reducible show wpAny _ _ (eval (PySem.Expr.Name (PySem.Str.ofString "due") _) _) _ _ _) | (with_reducible show wpAny _ _ (eval (PySem.Expr.Name (PySem.Str.ofString "fault") _) _) _ _ _)); k_dflt (refine ld (by k_asm) (by first | assumption | exact rfl) ?_)); (try dsimp only)) | (((with_reducible show wpAny _ _ (subscriptTail _ _ (Value.ref _) (Value.int (Int.fmod _ 3) _)) _ _ _); k_dflt (refine menu_sec (by k_asm) (.head _) ?_)); intro sx st hsx; (try dsimp only)) | (((with_reducible show wpAny _ _ (subscriptTail _ _ (Value.ref _) (Value.int (Int.fmod _ 2) _)) _ _ _); k_dflt (refine menu_opt (by k_asm) (.head _) ?_)); intro ox ot hox; (try dsimp only)) | (((with_reducible show wpAny _ _ (newList _) _ _ _); k_dflt (refine newList_K (by k_asm) (by k_asm) ?_ (by rw [sizeLine_eq]; exact Nat.le_of_ble_eq_true rfl))); intro x' h' F' N' ltx; have nI : @Ne Nat x' I := Nat.ne_of_gt (ltx (I, _) (by repeat (first | exact .head _ | refine .tail _ ?_))); have nR : @Ne Nat x' R := Nat.ne_of_gt (ltx (R, _) (by repeat (first | exact .head _ | refine .tail _ ?_))); (try dsimp only)) | (((with_reducible show wpAny _ _ (getMethod (Value.ref _) _ _) _ _ _); k_dflt (refine listMethod_K (by k_asm) (by k_mem) PySem.F.slot_list_append PySem.F.type_list_append ?_)); (try dsimp only)) | ((with_reducible show wpAny _ _ (call (Value.builtin "list.append") _) _ _ _); (try dsimp only [List.nil_append, List.cons_append]); (with_reducible show wpAny _ _ (call (Value.builtin "list.append") [_, _]) _ _ _); k_dflt (refine append_K (by k_asm) (by k_asm) (.tail (by assumption) (.tail (by assumption) (.tail (by assumption) (.tail (by assumption) (uR _))))) ?_ (by rw [List.size_toArray, hrl, sizeLine_eq]; omega)); intro h' F' N'; (try dsimp only)) | (walk1; (try dsimp only)) | (dsimp only; walk1) | (dsimp only [List.nil_append, List.cons_append]; walk1) | fail "no step")
    · exact rows_end (r := .head sx) J hIoff F' N' (by repeat (first | exact .head _ | refine .tail _ ?_)) (by repeat (first | exact .head _ | refine .tail _ ?_)) (.head _) (fun p hp => .tail _ (.tail _ (.tail _ (.tail _ (.tail _ (.tail _ hp)))))) (by assumption) (by assumption) (.cons (.str _ _) (.cons (.str _ _) (.cons (.str _ _) .nil))) hsx mr
    · exact rows_end (r := .opt ox) J hIoff F' N' (by repeat (first | exact .head _ | refine .tail _ ?_)) (by repeat (first | exact .head _ | refine .tail _ ?_)) (.head _) (fun p hp => .tail _ (.tail _ (.tail _ (.tail _ (.tail _ (.tail _ hp)))))) (by assumption) (by assumption) (.cons (.str _ _) (.cons (.str _ _) (.cons (.str _ _) .nil))) hox mr
    · exact rows_end (r := .look ox sx) J hIoff F' N' (by repeat (first | exact .head _ | refine .tail _ ?_)) (by repeat (first | exact .head _ | refine .tail _ ?_)) (.head _) (fun p hp => .tail _ (.tail _ (.tail _ (.tail _ (.tail _ (.tail _ hp)))))) (by assumption) (by assumption) (.cons (.str _ _) (.cons (.str _ _) (.cons (.str _ _) .nil))) ⟨hox, hsx⟩ mr
  case done =>
    rintro m₁ news₁ h5 tk5 ⟨rv, n, rs, tl, nl, rfl, J⟩ F5 N5
    replace F5 : Fr s₁.heap s₁.heap.objs.size h5 m₁ := F5
    replace N5 : News s₁.heap s₁.heap.objs.size h5 ((R, PySem.W.listOf rv.toArray n) :: tl) := N5
    have hrl : rv.length = (ns.take 20).length + 2 := by rw [J.dat.length, List.length_map, J.ln]; rfl
    have hl22 : rs.length ≤ 22 := by rw [J.ln]; exact Nat.add_le_add_right hl20 2
    have hln := J.ln
    have hR5 : RowsAll h5 rv rs := RowsAll.ofDat (fun p hp => (N5 p (.tail _ (J.sub p hp))).1) J.dat J.ok
    have mr := J.mr
    clear F6 N6 F4 N4 l6 hI6 l3 l2 l1
    dsimp only
    repeat' ((fail_if_success (with_reducible show wpAny _ _ (call (Value.ref 153) _) _ _ _)); first | (with_reducible refine execs_one ?_; (try dsimp only)) | (((first | (with_reducible show wpAny _ _ (eval (PySem.Expr.Name (PySem.Str.ofString "rows") _) _) _ _ _) | (with_reducible show wpAny _ _ (eval (PySem.Expr.Name (PySem.Str.ofString "script") _) _) _ _ _) | (with_reducible show wpAny _ _ (eval (PySem.Expr.Name (PySem.Str.ofString "section") _) _) _ _ _) | (with_reducible show wpAny _ _ (eval (PySem.Expr.Name (PySem.Str.ofString "option") _) _) _ _ _) | (with_reducible show wpAny _ _ (eval (PySem.Expr.Name (PySem.Str.ofString "x") _) _) _ _ _) | (with_reducible show wpAny _ _ (eval (PySem.Expr.Name (PySem.Str.ofString "rest") _) _) _ _ _) | (with_reducible show wpAny _ _ (eval (PySem.Expr.Name (PySem.Str.ofString "kind") _) _) _ _ _) | (with_reducible show wpAny _ _ (eval (PySem.Expr.Name (PySem.Str.ofString "log") _) _) _ _ _) | (with_reducible show wpAny _ _ (eval (PySem.Expr.Name (PySem.Str.ofString "due") _) _) _ _ _) | (with_reducible show wpAny _ _ (eval (PySem.Expr.Name (PySem.Str.ofString "fault") _) _) _ _ _)); k_dflt (refine ld (by k_asm) (by first | assumption | exact rfl) ?_)); (try dsimp only)) | (walk1; (try dsimp only)) | (dsimp only; walk1) | (dsimp only [List.nil_append, List.cons_append]; walk1) | fail "no step")
    try dsimp only [List.nil_append, List.cons_append]
    refine due_K1 hR5 (.head _) hl22 J.st KX T rfl ?d1 ?d2 rfl rfl rfl F5 N5 ?_
    case d1 => exact Nat.le_of_ble_eq_true rfl
    case d2 => exact Nat.le_of_ble_eq_true rfl
    intro h6 D DK DL kv gv nk ng nl2 tk6 F6 N6 dk dg hnt2
    repeat' ((fail_if_success (with_reducible show wpAny _ _ (exec (Stmt.For _ _ _ _ _) _) _ _ _)); first | (with_reducible refine execs_one ?_; (try dsimp only)) | (((first | (with_reducible show wpAny _ _ (eval (PySem.Expr.Name (PySem.Str.ofString "rows") _) _) _ _ _) | (with_reducible show wpAny _ _ (eval (PySem.Expr.Name (PySem.Str.ofString "script") _) _) _ _ _) | (with_reducible show wpAny _ _ (eval (PySem.Expr.Name (PySem.Str.ofString "section") _) _) _ _ _) | (with_reducible show wpAny _ _ (eval (PySem.Expr.Name (PySem.Str.ofString "option") _) _) _ _ _) | (with_reducible show wpAny _ _ (eval (PySem.Expr.Name (PySem.Str.ofString "x") _) _) _ _ _) | (with_reducible show wpAny _ _ (eval (PySem.Expr.Name (PySem.Str.ofString "rest") _) _) _ _ _) | (with_reducible show wpAny _ _ (eval (PySem.Expr.Name (PySem.Str.ofString "kind") _) _) _ _ _) | (with_reducible show wpAny _ _ (eval (PySem.Expr.Name (PySem.Str.ofString "log") _) _) _ _ _) | (with_reducible show wpAny _ _ (eval (PySem.Expr.Name (PySem.Str.ofString "due") _) _) _ _ _) | (with_reducible show wpAny _ _ (eval (PySem.Expr.Name (PySem.Str.ofString "fault") _) _) _ _ _)); k_dflt (refine ld (by k_asm) (by first | assumption | exact rfl) ?_)); (try dsimp only)) | (((with_reducible show wpAny _ _ (newList _) _ _ _); k_dflt (refine newList_K (by k_asm) (by k_asm) ?_ (by rw [sizeLine_eq]; exact Nat.le_of_ble_eq_true rfl))); intro Lg h' F' N' ltx; (try dsimp only)) | (walk1; (try dsimp only)) | (dsimp only; walk1) | (dsimp only [List.nil_append, List.cons_append]; walk1) | fail "no step")
    have hkl : rv.length = rs.length := by rw [J.dat.length, List.length_map]
    refine for_F (h₀ := s₁.heap) (by k_asm) (by rfl) (by rfl) ?_ (by intro _; rfl) (by passes_own)
    repeat' ((fail_if_success (with_reducible show wpAny _ _ (pyIter _) _ _ _)); first | (with_reducible refine execs_one ?_; (try dsimp only)) | (((first | (with_reducible show wpAny _ _ (eval (PySem.Expr.Name (PySem.Str.ofString "rows") _) _) _ _ _) | (with_reducible show wpAny _ _ (eval (PySem.Expr.Name (PySem.Str.ofString "script") _) _) _ _ _) | (with_reducible show wpAny _ _ (eval (PySem.Expr.Name (PySem.Str.ofString "section") _) _) _ _ _) | (with_reducible show wpAny _ _ (eval (PySem.Expr.Name (PySem.Str.ofString "option") _) _) _ _ _) | (with_reducible show wpAny _ _ (eval (PySem.Expr.Name (PySem.Str.ofString "x") _) _) _ _ _) | (with_reducible show wpAny _ _ (eval (PySem.Expr.Name (PySem.Str.ofString "rest") _) _) _ _ _) | (with_reducible show wpAny _ _ (eval (PySem.Expr.Name (PySem.Str.ofString "kind") _) _) _ _ _) | (with_reducible show wpAny _ _ (eval (PySem.Expr.Name (PySem.Str.ofString "log") _) _) _ _ _) | (with_reducible show wpAny _ _ (eval (PySem.Expr.Name (PySem.Str.ofString "due") _) _) _ _ _) | (with_reducible show wpAny _ _ (eval (PySem.Expr.Name (PySem.Str.ofString "fault") _) _) _ _ _)); k_dflt (refine ld (by k_asm) (by first | assumption | exact rfl) ?_)); (try dsimp only)) | (((with_reducible show wpAny _ _ (call (Value.builtin "len") [Value.ref R]) _ _ _); k_dflt (refine len_led (k := rs.length) (by k_asm) (.tail _ (.tail _ (.tail _ (.tail _ (List.mem_append_right _ (.head _)))))) hkl (by omega) ?_)); intro _ _; (try dsimp only)) | (((with_reducible show wpAny _ _ (call (Value.type "range") [Value.int _ _]) _ _ _); k_dflt (refine range1_rows (by k_asm) (by k_asm) ?_)); intro hR' tkR tR uR vR hrR FR NR hkR; (try dsimp only)) | (walk1; (try dsimp only)) | (dsimp only; walk1) | (dsimp only [List.nil_append, List.cons_append]; walk1) | fail "no step")
    obtain ⟨hsm, hsz⟩ := range_small rs.length (by omega)
    have hdue : Due0 rs D ((D, PySem.W.listOf [Value.ref DK, .ref DL].toArray 0) :: (DK, PySem.W.listOf kv.toArray nk) :: (DL, PySem.W.listOf gv.toArray ng) :: nl2) := ⟨DK, DL, kv, gv, nk, ng, nl2, rfl, dk, dg⟩
    refine iter_rangeGL (LogJ rs ((D, PySem.W.listOf [Value.ref DK, .ref DL].toArray 0) :: (DK, PySem.W.listOf kv.toArray nk) :: (DL, PySem.W.listOf gv.toArray ng) :: nl2) D Lg) rfl hrR hsm hsz FR NR ?j0 ?turn ?done
    case j0 =>
      refine ⟨R, rv, n, rs, [], [], 0, _, nl, rfl, .start J.ok J.st, J.dat, .nil, fun p hp => .tail _ (.tail _ (.tail _ (List.mem_append_right _ (.tail _ (J.sub p hp))))), .tail _ (.tail _ (.tail _ (List.mem_append_right _ (.head _)))), ?_, fun p hp => Nat.ne_of_lt (ltx p hp), ?_, mr, rfl, rfl⟩
      · intro p hp
        rcases List.mem_cons.mp hp with rfl | hp
        · exact .head _
        rcases List.mem_cons.mp hp with rfl | hp
        · exact .tail _ (.head _)
        rcases List.mem_cons.mp hp with rfl | hp
        · exact .tail _ (.tail _ (.head _))
        · exact .tail _ (.tail _ (.tail _ (List.mem_append_left _ hp)))
      · intro p hp
        rcases List.mem_cons.mp hp with rfl | hp
        · exact notTbL
        rcases List.mem_cons.mp hp with rfl | hp
        · exact notTbL
        rcases List.mem_cons.mp hp with rfl | hp
        · exact notTbL
        rcases List.mem_append.mp hp with hp | hp
        · exact hnt2 p hp
        rcases List.mem_cons.mp hp with rfl | hp
        · exact notTbL
        · exact J.nt p hp
    case turn =>
      clear FR NR ltx hR5
      rintro i t m₂ news₂ h7 tk7 I oI hi hIc hIoff ⟨R2, rv2, rn, rs2, lg, lv, ln, tl2, nl', rfl, J2⟩ F7 N7
      replace F7 : Fr s₁.heap s₁.heap.objs.size h7 (fun y => if y = "turn" then some (.int (i : Int) t) else m₂ y) := F7
      replace N7 : News s₁.heap s₁.heap.objs.size h7 ((I, oI) :: (Lg, PySem.W.listOf lv.toArray ln) :: tl2) := N7
      have hR7 : RowsAll h7 rv2 rs2 := RowsAll.ofDat (fun p hp => (N7 p (.tail _ (.tail _ (J2.sub p hp)))).1) J2.dat J2.here.ok
      have hj := J2.here.ln
      have hl7 : rs2.length ≤ 22 := by omega
      have mr2 := J2.mr
      have ml2 := J2.ml
      have md2 := J2.md
      have hlv : lv.length ≤ 22 := by rw [J2.ldat.length, List.length_map, J2.here.ll]; omega
      have hrv : rv2.length ≤ 22 := by rw [J2.dat.length, List.length_map]; omega
      repeat' ((fail_if_success (with_reducible show wpAny _ _ (call (Value.ref 139) _) _ _ _)); first | (with_reducible refine execs_one ?_; (try dsimp only)) | (((first | (with_reducible show wpAny _ _ (eval (PySem.Expr.Name (PySem.Str.ofString "rows") _) _) _ _ _) | (with_reducible show wpAny _ _ (eval (PySem.Expr.Name (PySem.Str.ofString "script") _) _) _ _ _) | (with_reducible show wpAny _ _ (eval (PySem.Expr.Name (PySem.Str.ofString "section") _) _) _ _ _) | (with_reducible show wpAny _ _ (eval (PySem.Expr.Name (PySem.Str.ofString "option") _) _) _ _ _) | (with_reducible show wpAny _ _ (eval (PySem.Expr.Name (PySem.Str.ofString "x") _) _) _ _ _) | (with_reducible show wpAny _ _ (eval (PySem.Expr.Name (PySem.Str.ofString "rest") _) _) _ _ _) | (with_reducible show wpAny _ _ (eval (PySem.Expr.Name (PySem.Str.ofString "kind") _) _) _ _ _) | (with_reducible show wpAny _ _ (eval (PySem.Expr.Name (PySem.Str.ofString "log") _) _) _ _ _) | (with_reducible show wpAny _ _ (eval (PySem.Expr.Name (PySem.Str.ofString "due") _) _) _ _ _) | (with_reducible show wpAny _ _ (eval (PySem.Expr.Name (PySem.Str.ofString "fault") _) _) _ _ _)); k_dflt (refine ld (by k_asm) (by first | assumption | exact rfl) ?_)); (try dsimp only)) | (walk1; (try dsimp only)) | (dsimp only; walk1) | (dsimp only [List.nil_append, List.cons_append]; walk1) | fail "no step")
      try dsimp only [List.nil_append, List.cons_append]
      refine fault_K (q := R2) hR7 (.tail _ (.tail _ J2.rm)) hl7 J2.here.st KX T rfl ?d1 ?d2 rfl rfl rfl F7 N7 ?nt (fun hnone h8 tk8 F8 N8 => ?none) (fun p f hpf h8 D1 D2 vals nl1 tt tk8 F8 N8 hda hfr => ?some)
      case d1 => exact Nat.le_of_ble_eq_true rfl
      case d2 => exact Nat.le_of_ble_eq_true rfl
      case nt =>
        intro p hp
        rcases List.mem_cons.mp hp with rfl | hp
        · exact notTb hIc
        rcases List.mem_cons.mp hp with rfl | hp
        · exact notTbL
        · exact J2.nt p hp
      case none =>
        clear F7 N7
        repeat' (first | (with_reducible refine execs_one ?_; (try dsimp only)) | (((first | (with_reducible show wpAny _ _ (eval (PySem.Expr.Name (PySem.Str.ofString "rows") _) _) _ _ _) | (with_reducible show wpAny _ _ (eval (PySem.Expr.Name (PySem.Str.ofString "log") _) _) _ _ _) | (with_reducible show wpAny _ _ (eval (PySem.Expr.Name (PySem.Str.ofString "due") _) _) _ _ _)); k_dflt (refine ld (by k_asm) (by first | exact mr2 | exact ml2 | exact md2 | exact rfl) ?_)); (try dsimp only)) | (((first | (with_reducible show wpAny _ _ (eval (PySem.Expr.Name (PySem.Str.ofString "fault") _) _) _ _ _)); k_dflt (refine ld (by k_asm) (by exact rfl) ?_)); (try dsimp only)) | (walk1; (try dsimp only)) | (dsimp only; walk1) | (dsimp only [List.nil_append, List.cons_append]; walk1) | fail "no step")
        unfold PostL
        dsimp only
        repeat' (first | (with_reducible refine execs_one ?_; (try dsimp only)) | (((first | (with_reducible show wpAny _ _ (eval (PySem.Expr.Name (PySem.Str.ofString "rows") _) _) _ _ _) | (with_reducible show wpAny _ _ (eval (PySem.Expr.Name (PySem.Str.ofString "log") _) _) _ _ _) | (with_reducible show wpAny _ _ (eval (PySem.Expr.Name (PySem.Str.ofString "due") _) _) _ _ _)); k_dflt (refine ld (by k_asm) (by first | exact mr2 | exact ml2 | exact md2 | exact rfl) ?_)); (try dsimp only)) | (((first | (with_reducible show wpAny _ _ (eval (PySem.Expr.Name (PySem.Str.ofString "fault") _) _) _ _ _)); k_dflt (refine ld (by k_asm) (by exact rfl) ?_)); (try dsimp only)) | (((with_reducible show wpAny _ _ (newList _) _ _ _); k_dflt (refine newList_K (by k_asm) (by k_asm) ?_ (by rw [sizeLine_eq]; exact Nat.le_of_ble_eq_true rfl))); intro x' h' F' N' ltx; (try dsimp only)) | (((with_reducible show wpAny _ _ (compareOp CmpOp.Eq (Value.ref _) (Value.ref D)) _ _ _); k_dflt (refine due_same (by k_asm) J2 hdue hnone hl22 (.head _) (.tail _ (.tail _ (.head _))) (fun p hp => .tail _ (.tail _ (.tail _ hp))) (by show 4 + 3 + 64 < 9900; decide) ?_)); (try dsimp only)) | (walk1; (try dsimp only)) | (dsimp only; walk1) | (dsimp only [List.nil_append, List.cons_append]; walk1) | fail "no step")
        refine goodW_bool F' hg (raisesW_false ?_) ?_
        · clear hdue hnone J2 J K0 KX T hR7 mr2 ml2 md2 hIoff N' F' ltx hrR
          wrow_none_raised
        · clear hdue hnone J2 J K0 KX T hR7 mr2 ml2 md2 hIoff N' F' ltx hrR
          wrow_post
      case some =>
        obtain ⟨hp, hat⟩ := J2.here.turn hpf
        replace N8 := news_four N8
        have g1 := hfr _ (.head _)
        have g2 := hfr _ (.tail _ (.head _))
        have n1 : @Ne Nat D1 Lg := g1.2 _ (.tail _ (.head _))
        have n2 : @Ne Nat D2 Lg := g2.2 _ (.tail _ (.head _))
        have nIL : @Ne Nat I Lg := Ne.symm (hIoff _ (.head _))
        obtain ⟨tl3, htl3⟩ : ∃ tl3, tl3 = nl1 ++ tl2 := ⟨_, rfl⟩
        rw [← htl3] at N8
        have rm3 : (R2, PySem.W.listOf rv2.toArray rn) ∈ tl3 := htl3 ▸ List.mem_append_right _ J2.rm
        have off3 : ∀ p ∈ tl3, @Ne Nat p.1 Lg := fun q hq => by
          rw [htl3] at hq
          rcases List.mem_append.mp hq with hq | hq
          · exact (hfr q (.tail _ (.tail _ hq))).2 _ (.tail _ (.head _))
          · exact J2.off q hq
        have uL := fun (o' : Obj) => (Upd.tail n1 (Upd.tail n2 (Upd.tail nIL (Upd.head (o' := o') off3))) : Upd Lg (PySem.W.listOf lv.toArray ln) o' ((D1, PySem.W.listOf [Value.int p tt, .ref D2].toArray 0) :: (D2, PySem.W.listOf vals.toArray 0) :: (I, oI) :: (Lg, PySem.W.listOf lv.toArray ln) :: tl3) _)
        clear F7 N7 hR7
        repeat' (first | (with_reducible refine execs_one ?_; (try dsimp only)) | (((first | (with_reducible show wpAny _ _ (eval (PySem.Expr.Name (PySem.Str.ofString "rows") _) _) _ _ _) | (with_reducible show wpAny _ _ (eval (PySem.Expr.Name (PySem.Str.ofString "log") _) _) _ _ _) | (with_reducible show wpAny _ _ (eval (PySem.Expr.Name (PySem.Str.ofString "due") _) _) _ _ _)); k_dflt (refine ld (by k_asm) (by first | exact mr2 | exact ml2 | exact md2 | exact rfl) ?_)); (try dsimp only)) | (((first | (with_reducible show wpAny _ _ (eval (PySem.Expr.Name (PySem.Str.ofString "fault") _) _) _ _ _)); k_dflt (refine ld (by k_asm) (by exact rfl) ?_)); (try dsimp only)) | (((with_reducible show wpAny _ _ (subscriptTail _ _ (Value.ref D1) (Value.int _ _)) _ _ _); k_dflt (refine item_listL (News.isList (by k_asm) (by repeat (first | exact .head _ | refine .tail _ ?_))) (by decide) (by decide) rfl ?_)); (try dsimp only)) | (((with_reducible show wpAny _ _ (getMethod (Value.ref _) _ _) _ _ _); k_dflt (refine listMethod_K (by k_asm) (by k_mem) PySem.F.slot_list_append PySem.F.type_list_append ?_)); (try dsimp only)) | ((with_reducible show wpAny _ _ (call (Value.builtin "list.append") _) _ _ _); (try dsimp only [List.nil_append, List.cons_append]); (with_reducible show wpAny _ _ (call (Value.builtin "list.append") [_, _]) _ _ _); k_dflt (refine append_K (by k_asm) (by k_asm) (uL _) ?_ (by rw [List.size_toArray, sizeLine_eq]; omega)); intro h' F' N'; (try dsimp only)) | (((with_reducible show wpAny _ _ (subscriptTail _ _ (Value.ref R2) (Value.ref _)) _ _ _); k_dflt (refine kmk_slice_lit (s := ⟨h', _, _, _, _⟩) F' N' (News.isList N' (by repeat (first | exact rm3 | refine .tail _ ?_))) (by kmk_part) (by kmk_part) (by first | exact pick_take | exact pick_drop) ?_ (by with_unfolding_all rfl) (by kmk_pure) (by rw [List.size_toArray, sizeLine_eq]; omega))); intro Sx h' F' N' ltx; (try dsimp only)) | (((with_reducible show wpAny _ _ (binaryOp _ (Value.ref _) (Value.ref _)) _ _ _); k_dflt (refine kmk_add_lit (by k_asm) (by k_asm) (News.isList N' (.tail _ (.head _))) (News.isList N' (.head _)) (by rw [List.toList_toArray, List.toList_toArray]) ?_ (by simp only [List.toList_toArray, List.length_take, List.length_drop]; rw [sizeLine_eq]; omega))); intro Rn h' F' N' ltx; have nRI : @Ne Nat Rn I := Nat.ne_of_gt (ltx (I, _) (by repeat (first | exact .head _ | refine .tail _ ?_))); have nRL : @Ne Nat Rn Lg := Nat.ne_of_gt (ltx (Lg, _) (by repeat (first | exact .head _ | refine .tail _ ?_))); (try dsimp only)) | (walk1; (try dsimp only)) | (dsimp only; walk1) | (dsimp only [List.nil_append, List.cons_append]; walk1) | fail "no step")
        refine (show EndL s₁.heap s₁.heap.objs.size _ _ _ _ _ from ?_)
        exact log_end (nl1 := nl1) J2 hIoff (by k_asm) (by k_asm) (by repeat (first | exact .head _ | refine .tail _ ?_)) (by repeat (first | exact .head _ | refine .tail _ ?_)) (.head _) (by repeat (first | exact .head _ | refine .tail _ ?_)) (fun q hq => .tail _ (.tail _ (.tail _ (.tail _ (.tail _ (.tail _ (.tail _ (htl3 ▸ List.mem_append_left _ hq)))))))) (fun q hq => .tail _ (.tail _ (.tail _ (.tail _ (.tail _ (.tail _ (.tail _ (htl3 ▸ List.mem_append_right _ hq)))))))) (fun x hx => ⟨(hfr x (.tail _ hx)).1, (hfr x (.tail _ hx)).2 _ (.head _), (hfr x (.tail _ hx)).2 _ (.tail _ (.head _))⟩) nRI nRL rfl hda hat (by exact rfl) (by exact ml2) (by exact md2)
    case done =>
      rintro m₂ news₂ h7 tk7 ⟨R2, rv2, rn, rs2, lg, lv, ln, tl2, nl', rfl, J2⟩ F7 N7
      exact absurd J2.here.never id
end Law

