import PyProof.Rows.All
import Wide.All
import OpenK.AllK
import Wide.FinOn
import Lean
import PySem.Challenge.RW_kn0115_04
open PySem PySem.W PySem.Calls PyProof.Rows
set_option Elab.async false
set_option maxRecDepth 100000
set_option maxHeartbeats 8000000
namespace Mine
open_top hd for PySem.Challenge.rw_kn0115_04
end Mine
namespace Mine

abbrev boundHas (S : Addr) : Obj := { cls := .type "builtin_function_or_method", data := .fields #[.builtin "set.__contains__", .ref S] }

theorem slot_set_has : Slot "set" "__contains__" "set.__contains__" :=
  .of (owner := "set") (n := "__contains__") (by rw [typeLookup_type, builtinLookup_eq_fast]; kernel_rfl) (by decide +kernel) (by decide +kernel) (by decide +kernel)
    (by first | exact .inl (by decide +kernel) | exact .inr (by decide +kernel)) (by rw [isSubtype_type]; kernel_rfl)
theorem slot_set_ga : Slot "set" "__getattribute__" "set.__getattribute__" :=
  .of (owner := "set") (n := "__getattribute__") (by rw [typeLookup_type, builtinLookup_eq_fast]; kernel_rfl) (by decide +kernel) (by decide +kernel) (by decide +kernel)
    (by first | exact .inl (by decide +kernel) | exact .inr (by decide +kernel)) (by rw [isSubtype_type]; kernel_rfl)
theorem slot_md_get : Slot "method_descriptor" "__get__" "method_descriptor.__get__" :=
  .of (owner := "method_descriptor") (n := "__get__") (by rw [typeLookup_type, builtinLookup_eq_fast]; kernel_rfl) (by decide +kernel) (by decide +kernel) (by decide +kernel)
    (by first | exact .inl (by decide +kernel) | exact .inr (by decide +kernel)) (by rw [isSubtype_type]; kernel_rfl)
theorem type_set_has : typeOf (.builtin "set.__contains__") = pure (.type "method_descriptor") := by show builtinType _ = _; rw [builtinType_eq_fast]; kernel_rfl
theorem entry_set_ga : entryFor table "set.__getattribute__" = some Builtin.«object.__getattribute__» :=
  entryFor_alias (id' := "object.__getattribute__") (by rw [fastTable_eq_tree]; kernel_rfl) (by first | rfl | decide +kernel) (by decide +kernel) (by rw [fastTable_eq_tree]; kernel_rfl)
theorem entry_md_get : entryFor table "method_descriptor.__get__" = some Builtin.«method_descriptor.__get__» := by first | exact entryFor_of_fast (by kernel_rfl) | exact entryFor_of_tree (by kernel_rfl)
theorem entry_set_has : entryFor table "set.__contains__" = some Builtin.«frozenset.__contains__» :=
  entryFor_alias (id' := "frozenset.__contains__") (by rw [fastTable_eq_tree]; kernel_rfl) (by first | rfl | decide +kernel) (by decide +kernel) (by rw [fastTable_eq_tree]; kernel_rfl)
theorem args_set_ga (a b : Value) : argsOk "set.__getattribute__" ⟨[a, b], []⟩ := by unfold argsOk; kernel_rfl
theorem args_md_get (a b c : Value) : argsOk "method_descriptor.__get__" ⟨[a, b, c], []⟩ := by unfold argsOk; kernel_rfl
theorem args_set_has (a b : Value) : argsOk "set.__contains__" ⟨[a, b], []⟩ := by unfold argsOk; kernel_rfl
end Mine
namespace Mine
section
variable {prog : Program} {w : World} {A : Around} {E : Value → Shared → Prop} {s : Shared}

theorem md_get_set {S : Addr} {Q : Fin → Shared → Prop} (hT : s.TypeIs (.ref S) "set")
    (h : Q (.done (.ret (.ref s.heap.objs.size))) { s with heap := s.heap.push (boundHas S) }) :
    wpAny (model prog w) A (Builtin.«method_descriptor.__get__» ⟨[.builtin "set.__contains__", .ref S, .type "set"], []⟩) Q E s := by
  unfold Builtin.«method_descriptor.__get__»
  refine wpAny_bind (wpAny_of_eq (a := (.builtin "set.__contains__", some (.ref S), some (.type "set"))) (by first | rfl | kernel_rfl) ?_)
  dsimp only
  have ht : Manifest.toldItsClass.contains "set.__contains__" = false := by decide +kernel
  simp only [ht, Bool.false_eq_true, if_false]
  refine wpAny_bind (m := _) ?_
  refine wpAny_bind (m := _) ?_
  refine wpAny_of_eq (a := (("__contains__" : Str), Value.type "set")) (by first | rfl | kernel_rfl) ?_
  dsimp only
  refine wpAny_bind (wpAny_isInstance hT PySem.sub_set_self ?_)
  refine wpAny_pure ?_
  exact wpAny_bind (wpAny_newObj_type (wpAny_pure h))

theorem getAttr_set_has {S : Addr} {es ep t} {expr : Bool} {Q : Value → Shared → Prop} (ho : s.heap.get? S = some { cls := .type "set", data := .set es ep t })
    (h : Q (.ref s.heap.objs.size) { s with heap := s.heap.push (boundHas S), toks := s.toks + 1 }) :
    wpAny (model prog w) A (getAttr (.ref S) "__contains__" expr) Q E s := by
  have hT : s.TypeIs (.ref S) "set" := ⟨_, ho, rfl⟩
  unfold getAttr
  refine wpAny_bind (wpAny_mkText ?_)
  show wpAny _ _ (getAttrBy (.ref S) (.str "__contains__" s.toks) true expr) Q E { s with toks := s.toks + 1 }
  unfold getAttrBy
  refine wpAny_holding (wpAny_bind (wpAny_typeOf (s := { s with toks := s.toks + 1 }) hT ?_))
  refine wpAny_bind (wpAny_of_eq slot_set_ga.lookup ?_)
  dsimp only
  rw [if_neg (show ¬ ((onTheHeap (.type "set") && (Value.builtin "set.__getattribute__") == Value.builtin "object.__getattribute__") = true) from by decide)]
  unfold getAttrByItsOwn
  refine wpAny_bind (wpAny_of_eq (a := none) rfl ?_)
  refine wpAny_bind (wpAny_attempt (wpAny_holding ?_))
  unfold callGetattribute
  rw [if_neg (show ¬ ((expr && onTheHeap (.builtin "set.__getattribute__")) = true) from by simp [onTheHeap])]
  unfold boundAndCalled
  refine wpAny_bind (wpAny_of_eq (slot_set_ga.bind _) ?_)
  dsimp only
  refine wpAny_call_entry slot_set_ga (s := { s with toks := s.toks + 1 }) hT entry_set_ga ?_ (args_set_ga _ _)
  unfold Builtin.«object.__getattribute__»
  refine wpAny_bind (wpAny_of_eq (a := (Value.ref S, [Value.str (Str.ofString "__contains__") s.toks])) (by first | rfl | kernel_rfl) ?_)
  dsimp only
  refine wpAny_bind (wpAny_of_eq (a := ("__contains__" : Str)) (by first | rfl | kernel_rfl) ?_)
  refine wpAny_bind (wpAny_typeOf (s := { s with toks := s.toks + 1 }) hT ?_)
  unfold Builtin.ObjectAttr.find
  refine wpAny_bind (wpAny_bind (wpAny_of_eq slot_set_has.lookup ?_))
  unfold Builtin.ObjectAttr.getOf
  dsimp only
  refine wpAny_bind (wpAny_specialOf (T := "method_descriptor") (show Shared.TypeIs _ (.builtin "set.__contains__") _ from type_set_has) slot_md_get.lookup ?_)
  unfold Builtin.ObjectAttr.dataDescriptor?
  dsimp only
  have hmd : Shared.TypeIs { s with toks := s.toks + 1 } (.builtin "set.__contains__") "method_descriptor" := type_set_has
  have hset : typeLookup (.type "method_descriptor") "__set__" = pure none := by rw [typeLookup_type, builtinLookup_eq_fast]; kernel_rfl
  have hdel : typeLookup (.type "method_descriptor") "__delete__" = pure none := by rw [typeLookup_type, builtinLookup_eq_fast]; kernel_rfl
  refine wpAny_bind (wpAny_bind ?_)
  unfold Builtin.ObjectAttr.takesStores
  refine wpAny_bind (wpAny_specialOf hmd hset ?_)
  simp only [Option.isSome_none, Bool.false_eq_true, if_false]
  refine wpAny_bind (wpAny_specialOf hmd hdel ?_)
  refine wpAny_pure ?_
  simp only [Option.isSome_none, Bool.false_eq_true, if_false]
  refine wpAny_pure ?_
  dsimp only
  unfold Builtin.ObjectAttr.ownThenClass Builtin.ObjectAttr.inOwnDict Builtin.ObjectAttr.ownDict
  refine wpAny_bind (wpAny_bind (wpAny_bind (wpAny_loadPart ho ?_)))
  dsimp only
  unfold instanceDict
  refine wpAny_bind (wpAny_loadPart ho ?_)
  refine wpAny_pure ?_
  unfold Builtin.ObjectAttr.inDict
  refine wpAny_pure ?_
  dsimp only
  refine wpAny_bind (wpAny_of_eq (a := ()) (by first | rfl | kernel_rfl) ?_)
  unfold Builtin.ObjectAttr.byTheClass
  refine wpAny_bind (wpAny_rule ?_)
  refine wpAny_pure ?_
  dsimp only
  unfold Builtin.ObjectAttr.bindTo
  dsimp only
  refine wpAny_bind (wpAny_holding ?_)
  refine wpAny_call_entry slot_md_get (s := { s with toks := s.toks + 1 }) (show Shared.TypeIs _ (.builtin "set.__contains__") _ from type_set_has) entry_md_get ?_ (args_md_get _ _ _)
  refine md_get_set (s := { s with toks := s.toks + 1 }) hT ?_
  refine ⟨_, rfl, ?_⟩
  refine wpAny_pure ⟨_, rfl, ?_⟩
  exact wpAny_pure h
end
end Mine
namespace Mine
section
variable {prog : Program} {w : World} {A : Around} {E : Value → Shared → Prop} {s : Shared}

theorem check_bound_has {S : Addr} {v : Value} {Q : Unit → Shared → Prop} (hT : s.TypeIs (.ref S) "set") (hno : ∃ o es ep t, s.heap.get? S = some o ∧ o.data = .set es ep t) (h : Q () s) :
    wpAny (model prog w) A (checkBoundCall "set.__contains__" ⟨[.ref S, v], []⟩) Q E s := by
  unfold checkBoundCall
  have hsig : Manifest.signature? "set.__contains__" = some ⟨.oneArg, "set.__contains__", "__contains__", .self, [⟨"object", .posOnly, true⟩]⟩ := by kernel_rfl
  have hk : builtinKind "set.__contains__" = some .method := by decide +kernel
  rw [hsig, hk]
  dsimp only
  rw [if_neg (by decide)]
  have hmod : isSubtype (.type "set") (.type "module") = pure false := by rw [isSubtype_type]; kernel_rfl
  refine wpAny_bind (wpAny_isInstance hT hmod ?_)
  have hv : Manifest.varargsMethods.contains "set.__contains__" = false := by decide +kernel
  simp only [hv, Bool.or_false, Bool.false_eq_true, if_false]
  obtain ⟨o, es, ep, t, ho, hd⟩ := hno
  have hb : wpAny (model prog w) A (isType (.ref S)) (fun b s' => b = false ∧ s' = s) E s := by
    unfold isType
    dsimp only
    refine wpAny_bind (wpAny_loadPart ho ?_)
    rw [hd]
    exact wpAny_pure ⟨rfl, rfl⟩
  refine wpAny_bind (wpAny_mono hb ?_ (fun _ _ z => z))
  rintro b s' ⟨rfl, rfl⟩
  simp only [Bool.false_eq_true, if_false]
  refine wpAny_bind (wpAny_typeOf hT ?_)
  dsimp only
  exact wpAny_of_eq (by kernel_rfl) h

theorem call_bound {b S : Addr} {v : Value} {Q : Value → Shared → Prop} (hb : s.heap.get? b = some (boundHas S)) (hT : s.TypeIs (.ref S) "set") (hno : ∃ o es ep t, s.heap.get? S = some o ∧ o.data = .set es ep t)
    (h : wpAny (model prog w) A.in1 (Builtin.«frozenset.__contains__» ⟨[.ref S, v], []⟩) (fun fin s' => ∃ r, fin = .done (.ret r) ∧ Q r s') E s) :
    wpAny (model prog w) A (call (.ref b) [v]) Q E s := by
  refine wpAny_call (codeAny_of_tree ?_)
  show wpAny _ A.in1 (callAny (.ref b) _) _ _ _
  unfold callAny
  refine wpAny_bind (wpAny_load hb ?_)
  dsimp only
  rw [if_pos (by decide)]
  refine wpAny_bind (m := _) (check_bound_has hT hno ?_)
  refine wpAny_pure (And.intro (plainId_quiet slot_set_has.plain _) (codeAny_builtin entry_set_has ?_))
  rw [Around.under_plainId slot_set_has.plain _]
  refine wpAny_mono h (fun fin s' hf => ?_) fun _ _ z => z
  obtain ⟨r, rfl, hq⟩ := hf
  exact hq

theorem has_body {K : Type} [DecidableEq K] [BEq K] [LawfulBEq K] {knd : KeyKind prog w K} {S : Addr} {Sf : K → Bool} {n : Nat} {k : K} {key : Value} {Q : Fin → Shared → Prop}
    (hkey : knd.is k key = true) (hsc : key.scannable = true) (hS : s.heap.SetOf knd S Sf n) (h : Q (.done (.ret (.bool (Sf k)))) { s with toks := s.toks + 1 }) :
    wpAny (model prog w) A (Builtin.«frozenset.__contains__» ⟨[.ref S, key], []⟩) Q E s := by
  unfold Builtin.«frozenset.__contains__» Builtin.Frozenset.oneOther
  simp only [List.isEmpty_nil, bind_assoc]
  unfold Builtin.Frozenset.addrOf Builtin.Frozenset.withSetAsKey setContains
  refine wpAny_bind (wpAny_pure ?_)
  try dsimp only
  refine wpAny_bind (wpAny_pure ?_)
  try dsimp only
  refine wpAny_bind (wpAny_tryCatch ?_)
  refine wpAny_holding ?_
  refine wpAny_bind (knd.pyHash hkey ?_)
  refine wpAny_bind (wpAny_setFind_of (s := { s with toks := s.toks + 1 }) hkey hsc hS fun r hr => ?_)
  refine wpAny_pure ?_
  show wpAny _ _ (ret (Value.bool r.isSome)) _ _ _
  rw [hr]
  exact wpAny_pure h

theorem call_has {K : Type} [DecidableEq K] [BEq K] [LawfulBEq K] {knd : KeyKind prog w K} {b S : Addr} {Sf : K → Bool} {n : Nat} {k : K} {key : Value} {Q : Value → Shared → Prop}
    (hb : s.heap.get? b = some (boundHas S)) (hkey : knd.is k key = true) (hsc : key.scannable = true) (hS : s.heap.SetOf knd S Sf n) (h : Q (.bool (Sf k)) { s with toks := s.toks + 1 }) :
    wpAny (model prog w) A (call (.ref b) [key]) Q E s := by
  refine call_bound hb hS.typeIs ?_ (has_body hkey hsc hS ⟨_, rfl, h⟩)
  obtain ⟨o, es, ep, t, ho, _, hd, _⟩ := hS
  exact ⟨o, es, ep, t, ho, hd⟩

/-- a call, by a name, of a bound method of a built-in: the keeper is the machine -/
theorem callWith_bm {M : Model} {pos : Pos} {u S : Addr} {first : List Value} {args : List (Bool × Sem Value)} {Q : Value → Shared → Prop} (hplain : args.any (·.1) = false)
    (h : wpAny M A (evalArgs (.ref u) true args []) (fun x s₁ => s₁.heap.get? u = some (boundHas S) ∧ wpAny M A (call (.ref u) (first ++ x.pos) x.kw) Q E s₁) E s) : wpAny M A (callWith pos (.ref u) first args []) Q E s := by
  unfold callWith
  refine wpAny_bind (wpAny_holding (wpAny_mono h (fun x s₁ h₁ => wpAny_bind (wpAny_standAt ?_)) fun _ _ x => x))
  obtain ⟨ho, hcall⟩ := h₁
  simp only [hplain, List.any_nil, Bool.or_false]
  refine wpAny_bind (m := keeperOf (.ref u)) ?_
  unfold keeperOf
  refine wpAny_bind (wpAny_load ho ?_)
  simp only [show (Value.type "builtin_function_or_method" != Value.type "method") = true by decide, show (Value.type "builtin_function_or_method" == Value.type "builtin_function_or_method" || Value.type "builtin_function_or_method" == Value.type "method-wrapper") = true by decide, if_true]
  refine wpAny_pure ?_
  exact wpAny_bind (wpAny_mono hcall (fun r s₂ hr => wpAny_bind (wpAny_holding (wpAny_point (wpAny_pure hr)))) fun _ _ x => x)
end
end Mine
namespace Mine
section
variable {prog : Program} {w : World} {A : Around} {E : Value → Shared → Prop} {s : Shared}
abbrev freshSet (led : Bool) : Obj := { cls := .type "set", dict := none, data := .set #[] 0 (.fresh 0 0 led) }

theorem call_set_open {r : Addr} {Q : Value → Shared → Prop}
    (h : ∀ led : Bool, wpAny (model prog w) A.in1.in1 (Builtin.Frozenset.updateFrom "set.__init__" s.heap.objs.size (.ref r)) (fun _ s' => Q (.ref s.heap.objs.size) s') E { s with heap := s.heap.push (freshSet led) }) :
    wpAny (model prog w) A (call (.type "set") [.ref r]) Q E s := by
  obtain ⟨c, tl, hmro⟩ := F.called_set.mro
  have hmade := F.called_set.made
  have hsub := F.called_set.sub
  refine wpAny_call (codeAny_of_tree ?_)
  show wpAny _ _ (callAny (.type "set") _) _ _ _
  refine wpAny_pure ⟨Code.quiet_builtin _ (by decide +kernel), codeAny_builtin F.entry_type_call ?_⟩
  rw [Around.under_plain (weight_type_call_type "set" [.ref r] []) rfl]
  have h1 := F.called_set.notType
  have h2 := F.called_set.canCreate
  have hct := F.typeCall_set_1 (.ref r)
  repeat (any_goals (first | assumption | wp_step))
  refine codeAny_mono (code_set_new_1 (.ref r) (E := E) (Q₁ := fun obj s₁ => ∃ led : Bool, obj = .ref s.heap.objs.size ∧ s₁ = { s with heap := s.heap.push (freshSet led) }) fun led => ⟨led, rfl, rfl⟩) fun res s₁ hr => ?_
  match res, hr with
  | .error e, hr => exact hr
  | .ok (.ret obj), hr =>
    obtain ⟨led, rfl, rfl⟩ := hr
    have hS : (s.heap.push (freshSet led)).get? s.heap.objs.size = some (freshSet led) := Heap.get?_push_size _ rfl
    have hT : Shared.TypeIs { s with heap := s.heap.push (freshSet led) } (.ref s.heap.objs.size) "set" := ⟨_, hS, rfl⟩
    have hli := F.called_set.init.lookup
    have hbi := F.called_set.init.bind (.ref s.heap.objs.size)
    repeat (any_goals (first | assumption | wp_step))
    refine codeAny_mono (codeAny_call_builtin (R := wants (fun r s₂ => r = .none ∧ Q (.ref s.heap.objs.size) s₂) E) F.called_set.init.plain F.entry_set_init (check_set_init_1 hT ?_)) fun r₂ s₂ hr₂ => ?_
    · unfold Builtin.«set.__init__»
      refine wpAny_bind (wpAny_of_eq (a := ()) (by first | rfl | kernel_rfl) ?_)
      dsimp only
      refine wpAny_bind (m := _) ?_
      unfold typeNameOfCut shownTypeOf
      refine wpAny_bind (wpAny_bind (wpAny_typeOf hT ?_))
      refine wpAny_of_eq (a := Value.type "set") (by first | rfl | kernel_rfl) ?_
      refine wpAny_of_eq (a := "set") (by first | rfl | kernel_rfl) ?_
      refine wpAny_bind (wpAny_of_eq (a := ()) (by first | rfl | kernel_rfl) ?_)
      refine wpAny_bind (wpAny_pure ?_)
      unfold setUsed
      refine wpAny_bind (wpAny_bind ?_)
      unfold setState
      refine wpAny_bind (wpAny_load hS ?_)
      dsimp only
      rw [if_neg (by cases led <;> decide)]
      refine wpAny_pure (wpAny_pure ?_)
      rw [if_neg (by cases led <;> decide)]
      refine wpAny_bind (wpAny_mono (h led) (fun _ s' hq => ?_) fun _ _ z => z)
      exact wpAny_pure ⟨rfl, hq⟩
    · match r₂, hr₂ with
      | .error e, hr₂ => exact hr₂
      | .ok (.ret v), hr₂ =>
        obtain ⟨rfl, hq⟩ := hr₂
        repeat (any_goals (first | assumption | wp_step))
      | .ok .next, hr => exact hr.elim
      | .ok .brk, hr => exact hr.elim
      | .ok .cont, hr => exact hr.elim
  | .ok .next, hr => exact hr.elim
  | .ok .brk, hr => exact hr.elim
  | .ok .cont, hr => exact hr.elim
end
end Mine
namespace Mine
section
variable {prog : Program} {w : World} {A : Around} {E : Value → Shared → Prop} {s : Shared}

/-- what set() is asked to read: a thing of a type that is neither set nor dict -/
structure PlainSource (T : String) : Prop where
  noSet : isSubtype (.type T) (.type "set") = pure false
  noFrozen : isSubtype (.type T) (.type "frozenset") = pure false
  noDict : (Value.type T == Value.type "dict") = false
theorem source_list : PlainSource "list" := ⟨F.sub_list_set, F.sub_list_frozenset, by decide⟩
theorem source_range : PlainSource "range" := ⟨by rw [isSubtype_type]; kernel_rfl, by rw [isSubtype_type]; kernel_rfl, by decide⟩

theorem updateFrom_open {S r : Addr} {T : String} {Q : Unit → Shared → Prop} (hT : s.TypeIs (.ref r) T) (P : PlainSource T)
    (h : wpAny (model prog w) A (pyIter (.ref r)) (fun it s' => codeAny (model prog w) A (.builtin "set.update.loop" ⟨[.ref S, it], []⟩) (fun res s'' => match res with | .ok (.ret _) => Q () s'' | .ok _ => False | .error e => E e s'') s') E s) :
    wpAny (model prog w) A (Builtin.Frozenset.updateFrom "set.__init__" S (.ref r)) Q E s := by
  unfold Builtin.Frozenset.updateFrom Builtin.Frozenset.isAnySet
  refine wpAny_bind ?_
  have h1 : wpAny (model prog w) A (isInstance (.ref r) (.type "set") <||> isInstance (.ref r) (.type "frozenset")) (fun b s' => b = false ∧ s' = s) E s := by
    show wpAny _ _ (do let b ← isInstance (.ref r) (.type "set"); match toBool b with | true => pure b | false => isInstance (.ref r) (.type "frozenset")) _ _ _
    refine wpAny_bind (wpAny_isInstance hT P.noSet ?_)
    exact wpAny_isInstance hT P.noFrozen ⟨rfl, rfl⟩
  refine wpAny_mono h1 ?_ fun _ _ z => z
  rintro b s' ⟨rfl, rfl⟩
  rw [if_neg Bool.false_ne_true]
  refine wpAny_bind (wpAny_typeOf hT ?_)
  rw [if_neg (by rw [P.noDict]; exact Bool.false_ne_true)]
  refine wpAny_bind (wpAny_mono h (fun it s' hi => ?_) fun _ _ z => z)
  refine wpAny_bind (wpAny_runValue (codeAny_mono hi fun res s'' hr => ?_))
  match res, hr with
  | .error e, hr => exact hr
  | .ok (.ret _), hr => exact wpAny_pure hr
  | .ok .next, hr => exact hr.elim
  | .ok .brk, hr => exact hr.elim
  | .ok .cont, hr => exact hr.elim

/-- set(list of ints) -/
theorem call_set_ints_range {r : Addr} {a b c : Int} {t u v : Tok} {n : Nat} {Q : Value → Shared → Prop} (hh : A.handled = none) (hr : IsRange s.heap r a b c t u v) (hsm : Builtin.Range.small a b c = true)
    (hn : Builtin.Range.rangeSize a b c = (n : Int)) (hb : n + 1 < scanBound)
    (h : ∀ (h' : Heap) (tk : Nat), h'.SetOf (intKind prog w) s.heap.objs.size (fun k' => (firstMet (fun i => a + i * c) n).any (· == k')) (firstMet (fun i => a + i * c) n).length →
      (∀ b o, s.heap.get? b = some o → h'.get? b = some o) → s.toks ≤ tk → Q (.ref s.heap.objs.size) { s with heap := h', toks := tk }) :
    wpAny (model prog w) A (call (.type "set") [.ref r]) Q E s := by
  refine call_set_open fun led => ?_
  have hr' : IsRange (s.heap.push (freshSet led)) r a b c t u v := Heap.get?_push_of_some _ hr
  have hS : (s.heap.push (freshSet led)).get? s.heap.objs.size = some (freshSet led) := Heap.get?_push_size _ rfl
  refine updateFrom_open (s := { s with heap := s.heap.push (freshSet led) }) ⟨_, hr', rfl⟩ source_range ?_
  refine wpAny_pyIter_range (s := { s with heap := s.heap.push (freshSet led) }) hr' hsm ?_
  have hlt : s.heap.objs.size < (s.heap.push (freshSet led)).objs.size := by rw [Heap.size_push]; exact Nat.lt_succ_self _
  have hSf : s.heap.objs.size ∉ [(s.heap.push (freshSet led)).objs.size] := by simp only [List.mem_singleton]; exact Nat.ne_of_lt hlt
  refine codeAny_set_update_loopS ((Walks.range (prog := prog) (w := w) (A := A.in1.in1.in1) hh (s.heap.push (freshSet led)).objs.size a c n).toS) s.heap.objs.size hSf (fun i => a + i * c) (fun i v hv => hv) hb n 0 _ (by omega) (Nat.zero_le _) ?st ?S0 ?R
  case st =>
    show IsRangeIter _ _ (a + ((0 : Nat) : Int) * c) ((n : Int) - ((0 : Nat) : Int)) c
    have := Heap.get?_push_size (s.heap.push (freshSet led)) (o := { cls := .type "range_iterator", data := .fields #[rawInt a, rawInt (Builtin.Range.rangeSize a b c), rawInt c] }) rfl
    rw [hn] at this ⊢
    simpa using this
  case S0 => exact SetOf_congr ((setObjOf_fresh (knd := intKind prog w) led).setOf (Heap.get?_push_of_some _ hS) (by unfold scanBound; omega)) (fun _ => rfl) rfl
  case R =>
    intro s' hm hS'
    obtain ⟨h', g', d', tk', os'⟩ := s'
    have eg : g' = s.gens := hm.gens
    have ed : d' = s.drawn := hm.drawn
    have eo : os' = s.os := hm.os
    have et : s.toks ≤ tk' := hm.toks
    subst eg; subst ed; subst eo
    refine h h' tk' hS' (fun b o e => hm.heap b o ?_ (Heap.get?_push_of_some _ (Heap.get?_push_of_some _ e))) et
    have := Heap.lt_size e
    simp only [List.mem_cons, List.not_mem_nil, or_false, not_or, Heap.size_push]
    exact ⟨Nat.ne_of_lt this, Nat.ne_of_lt (Nat.lt_succ_of_lt this)⟩
end
end Mine
namespace Mine
/-- a set object that holds, of the ints, just those of S -/
def IsHas (so : Obj) (S : Int → Bool) : Prop := (∃ es ep t, so = { cls := .type "set", data := .set es ep t }) ∧ ∃ n, n < scanBound ∧ so.IntSetOf S n
theorem IsHas.shape {so : Obj} {S : Int → Bool} (x : IsHas so S) : ∃ es ep t, so = { cls := .type "set", data := .set es ep t } := x.1
theorem IsHas.congr {so : Obj} {S S' : Int → Bool} (x : IsHas so S) (e : ∀ k, S k = S' k) : IsHas so S' := by
  have : S = S' := funext e
  subst this; exact x
section
variable {prog : Program} {w : World} {A : Around} {E : Value → Shared → Prop} {s : Shared} {h₀ : Heap} {L : Addr} {m : Str → Option Value} {news : List (Addr × Obj)}
theorem IsHas.setOf {so : Obj} {S : Int → Bool} {h : Heap} {a : Addr} (x : IsHas so S) (ho : h.get? a = some so) : ∃ n, h.SetOf (intKind prog w) a S n := by
  obtain ⟨_, n, hb, hi⟩ := x
  exact ⟨n, (hi prog w).setOf ho hb⟩
theorem isHas_of {S : Int → Bool} {n : Nat} {h : Heap} {a : Addr} (x : h.SetOf (intKind prog w) a S n) : ∃ so, h.get? a = some so ∧ IsHas so S := by
  have hb : n < scanBound := by obtain ⟨_, _, _, _, _, _, _, _, _, hb, _, hn⟩ := x; exact hn ▸ hb
  obtain ⟨so, ho, hs⟩ := x.objOf
  refine ⟨so, ho, ?_, n, hb, hs.intSetOf⟩
  obtain ⟨⟨h1, h2, h3⟩, es, ep, t, hd, _⟩ := hs
  obtain ⟨c, d, dt, sl⟩ := so
  simp only at h1 h2 h3 hd
  subst h1; subst h2; subst h3; subst hd
  exact ⟨es, ep, t, rfl⟩

theorem Fr_keeps {h' : Heap} (F : Fr h₀ L s.heap m) (hk : ∀ b o, s.heap.get? b = some o → h'.get? b = some o) : Fr h₀ L h' m := F.keeps hk
theorem News_keeps {h' : Heap} (N : News h₀ L s.heap news) (hk : ∀ b o, s.heap.get? b = some o → h'.get? b = some o) : News h₀ L h' news := fun p hp => ⟨hk _ _ (N p hp).1, (N p hp).2⟩
theorem News_new {h' : Heap} {a : Addr} {o : Obj} (F : Fr h₀ L s.heap m) (N : News h₀ L s.heap news) (hk : ∀ b o, s.heap.get? b = some o → h'.get? b = some o) (hge : s.heap.objs.size ≤ a) (ho : h'.get? a = some o) :
    News h₀ L h' ((a, o) :: news) := by
  intro p hp
  rcases List.mem_cons.mp hp with rfl | hp
  · refine ⟨ho, ?_, ?_⟩
    · obtain ⟨oL, _, _, hL, _⟩ := F.ns
      exact Nat.ne_of_gt (Nat.lt_of_lt_of_le (Heap.lt_size hL) hge)
    · cases hq : h₀.get? a with
      | none => rfl
      | some o' => exact absurd (Nat.lt_of_lt_of_le (Heap.lt_size (F.keep _ _ hq)) hge) (Nat.lt_irrefl _)
  · exact ⟨hk _ _ (N p hp).1, (N p hp).2⟩

theorem set_range_N {r : Addr} {a b c : Int} {t u v : Tok} {n : Nat} {Q : Value → Shared → Prop} (F : Fr h₀ L s.heap m) (N : News h₀ L s.heap news) (hh : A.handled = none) (hr : IsRange s.heap r a b c t u v)
    (hsm : Builtin.Range.small a b c = true) (hn : Builtin.Range.rangeSize a b c = (n : Int)) (hb : n + 1 < scanBound)
    (h : ∀ S so h' tk, Fr h₀ L h' m → News h₀ L h' ((S, so) :: news) → (∀ p ∈ news, p.1 < S) → IsHas so (fun k' => (firstMet (fun i => a + i * c) n).any (· == k')) → Q (.ref S) { s with heap := h', toks := tk }) :
    wpAny (model prog w) A (call (.type "set") [.ref r]) Q E s := by
  refine call_set_ints_range hh hr hsm hn hb fun h' tk hS hk _ => ?_
  obtain ⟨so, ho, hs⟩ := isHas_of hS
  exact h _ so h' tk (F.keeps hk) (News_new F N hk (Nat.le_refl _) ho) (fun p hp => Heap.lt_size (N p hp).1) hs

theorem getAttr_has_N {S : Addr} {so : Obj} {Sf : Int → Bool} {expr : Bool} {Q : Value → Shared → Prop} (F : Fr h₀ L s.heap m) (N : News h₀ L s.heap news) (hm : (S, so) ∈ news) (hs : IsHas so Sf)
    (h : ∀ b h', Fr h₀ L h' m → News h₀ L h' ((b, boundHas S) :: news) → (∀ p ∈ news, p.1 < b) → Q (.ref b) { s with heap := h', toks := s.toks + 1 }) :
    wpAny (model prog w) A (getAttr (.ref S) "__contains__" expr) Q E s := by
  obtain ⟨es, ep, t, rfl⟩ := hs.shape
  exact getAttr_set_has (N _ hm).1 (h _ _ (F.push _) (N.push F _) fun p hp => Heap.lt_size (N p hp).1)

/-- a thing that iter() hands back as it is -/
def SelfIter (prog : Program) (w : World) (v : Value) (h : Heap) : Prop :=
  ∀ (A : Around) (Q : Value → Shared → Prop) (E : Value → Shared → Prop) (s : Shared), A.depth + 8 < recursionLimit → A.units + 64 < cLine → (∀ b o, h.get? b = some o → s.heap.get? b = some o) →
    (∀ tk h', (∀ b o, s.heap.get? b = some o → h'.get? b = some o) → Q v { s with heap := h', toks := tk }) → wpAny (model prog w) A (pyIter v) Q E s
theorem SelfIter.keeps {v : Value} {h h' : Heap} (x : SelfIter prog w v h) (hk : ∀ b o, h.get? b = some o → h'.get? b = some o) : SelfIter prog w v h' :=
  fun A Q E s a b k q => x A Q E s a b (fun b o e => k b o (hk b o e)) q
theorem selfIter_listiter {it l : Addr} {i : Nat} {h : Heap} (hit : h.IsListIter it l i) : SelfIter prog w (.ref it) h :=
  fun A Q E s _ _ k q => wpAny_pyIter_listiter (hit.at fun o e => k _ _ e) (q s.toks s.heap fun _ _ e => e)

theorem args_iter1 (a : Value) : argsOk "iter" ⟨[a], []⟩ := by unfold argsOk; kernel_rfl
theorem entry_iter : entryFor table "iter" = some Builtin.«iter» := by first | exact entryFor_of_fast (by kernel_rfl) | exact entryFor_of_tree (by kernel_rfl)
theorem iter_open {v : Value} {Q : Value → Shared → Prop} (h : wpAny (model prog w) A.in1 (pyIter v) Q E s) : wpAny (model prog w) A (call (.builtin "iter") [v]) Q E s := by
  refine call_function_entry (by decide +kernel) (by decide +kernel) entry_iter (args_iter1 _) ?_
  unfold Builtin.«iter»
  refine wpAny_bind (m := someArgs "iter" 1 2 _) (wpAny_of_eq (a := [v]) (by first | rfl | kernel_rfl) ?_)
  dsimp only
  exact wpAny_bind (wpAny_mono h (fun r s' hr => wpAny_pure ⟨_, rfl, hr⟩) fun _ _ z => z)
theorem iter_self_N {v : Value} {Q : Value → Shared → Prop} (F : Fr h₀ L s.heap m) (N : News h₀ L s.heap news) (hv : SelfIter prog w v s.heap) (hd : A.depth + 8 < recursionLimit) (hu : A.units + 65 < cLine)
    (h : ∀ h' tk, Fr h₀ L h' m → News h₀ L h' news → Q v { s with heap := h', toks := tk }) : wpAny (model prog w) A (call (.builtin "iter") [v]) Q E s :=
  iter_open (hv A.in1 Q E s hd (by show A.units + 1 + 64 < cLine; omega) (fun _ _ e => e) fun tk h' hk => h h' tk (F.keeps hk) (News_keeps N hk))
theorem iter_list_N {l : Addr} {items : Array Value} {Q : Value → Shared → Prop} (F : Fr h₀ L s.heap m) (N : News h₀ L s.heap news) (hl : s.heap.IsList l items)
    (h : ∀ I h', Fr h₀ L h' m → News h₀ L h' ((I, { cls := .type "list_iterator", data := .fields #[.ref l, .int 0 0] }) :: news) → (∀ p ∈ news, p.1 < I) → Q (.ref I) { s with heap := h' }) : wpAny (model prog w) A (call (.builtin "iter") [.ref l]) Q E s :=
  iter_open (wpAny_pyIter_list hl (h _ _ (F.push _) (N.push F _) fun p hp => Heap.lt_size (N p hp).1))
end
end Mine
namespace Mine
section
variable {prog : Program} {w : World} {A : Around} {E : Value → Shared → Prop} {s : Shared}
theorem entry_next : entryFor table "next" = some Builtin.«next» := by first | exact entryFor_of_fast (by kernel_rfl) | exact entryFor_of_tree (by kernel_rfl)
theorem args_next1 (a : Value) : argsOk "next" ⟨[a], []⟩ := by unfold argsOk; kernel_rfl
theorem args_next2 (a b : Value) : argsOk "next" ⟨[a, b], []⟩ := by unfold argsOk; kernel_rfl
/-- a thing whose class has a __next__ -/
def HasNext (M : Model) (v : Value) (h : Heap) : Prop := ∃ g, Looks M h (specialOf v "__next__") (some g)
theorem hasNext_listiter {M : Model} {it l : Addr} {i : Nat} {h : Heap} (hit : h.IsListIter it l i) : HasNext M (.ref it) h :=
  ⟨_, fun A Q E s k q => wpAny_specialOf (name := "__next__") (T := "list_iterator") (by obtain ⟨o, ho, hc, _⟩ := hit; exact ⟨o, k _ _ ho, hc⟩) PySem.slot_listiter_next.lookup q⟩
theorem next_open1 {v : Value} {Q : Value → Shared → Prop} (hn : HasNext (model prog w) v s.heap) (h : wpAny (model prog w) A.in1 (callSpecial? v "__next__") (fun r s' => ∃ x, r = some x ∧ Q x s') E s) :
    wpAny (model prog w) A (call (.builtin "next") [v]) Q E s := by
  obtain ⟨g, hg⟩ := hn
  refine call_function_entry (by decide +kernel) (by decide +kernel) entry_next (args_next1 _) ?_
  unfold Builtin.«next»
  refine wpAny_bind (m := someArgs "next" 1 2 _) (wpAny_of_eq (a := [v]) (by first | rfl | kernel_rfl) ?_)
  dsimp only
  refine wpAny_bind (hg.here ?_)
  rw [if_neg (by simp)]
  refine wpAny_bind (wpAny_mono h (fun r s' hr => ?_) fun _ _ z => z)
  obtain ⟨x, rfl, hq⟩ := hr
  exact wpAny_pure ⟨_, rfl, hq⟩
theorem next_open2 {v d : Value} {Q : Value → Shared → Prop} (hn : HasNext (model prog w) v s.heap) (h : wpAny (model prog w) A.in1 (pyNext v) (fun r s' => Q (r.getD d) s') E s) :
    wpAny (model prog w) A (call (.builtin "next") [v, d]) Q E s := by
  obtain ⟨g, hg⟩ := hn
  refine call_function_entry (by decide +kernel) (by decide +kernel) entry_next (args_next2 _ _) ?_
  unfold Builtin.«next»
  refine wpAny_bind (m := someArgs "next" 1 2 _) (wpAny_of_eq (a := [v, d]) (by first | rfl | kernel_rfl) ?_)
  dsimp only
  refine wpAny_bind (hg.here ?_)
  rw [if_neg (by simp)]
  exact wpAny_bind (wpAny_mono h (fun r s' hr => wpAny_pure ⟨_, rfl, hr⟩) fun _ _ z => z)

/-- the list iterator's own __next__, an item -/
theorem listiter_item {it l : Addr} {i : Nat} {items : Array Value} {x : Value} {Q : Option Value → Shared → Prop} (hit : s.heap.IsListIter it l i) (hl : s.heap.IsList l items) (hx : items[i]? = some x)
    (hQ : ∀ h', h'.IsListIter it l (i + 1) → Heap.SameBut it s.heap h' → Q (some x) { s with heap := h' }) : wpAny (model prog w) A (callSpecial? (.ref it) "__next__") Q E s := by
  obtain ⟨o, ho, hc, hd⟩ := id hit
  obtain ⟨ol, hol, _, nl, hdl⟩ := hl
  refine wpAny_callSpecial?_slot (name := Str.ofString "__next__") hit.typeIs PySem.slot_listiter_next (wpAny_call_entry PySem.slot_listiter_next hit.typeIs PySem.entry_listiter_next ?_ (PySem.args_listiter_next _))
  show wpAny _ _ (field (.ref it) 0 >>= _) _ _ s
  refine wpAny_bind (wpAny_field ho hd (x := .ref l) rfl ?_)
  show wpAny _ _ (if (Value.ref l == Value.none) = true then _ else _) _ _ s
  rw [if_neg (show ¬ ((Value.ref l == Value.none) = true) from Bool.false_ne_true)]
  show wpAny _ _ (field (.ref it) 1 >>= _) _ _ s
  refine wpAny_bind (wpAny_field ho hd (x := .int i 0) rfl ?_)
  show wpAny _ _ (seqItems? (.ref l) >>= _) _ _ s
  refine wpAny_bind (wpAny_seqItems hol hdl ?_)
  simp only [Int.toNat_natCast, hx]
  refine wpAny_bind (wpAny_setField ho hd (by simp) (wpAny_pure ⟨x, rfl, hQ _ ?_ (Heap.SameBut.update ..)⟩))
  exact ⟨_, Heap.get?_update_self _ ho (Obj.isFreed_of_fields (Obj.data_mapFields hd _)), (Obj.cls_mapFields ..).trans hc, by rw [Obj.data_mapFields hd]; simp [rawInt]⟩

/-- a new exception object, that no frame has been noted upon -/
structure FreshExc (h₁ h' : Heap) (e : Addr) (X : String) : Prop where
  keeps : ∀ b o, h₁.get? b = some o → h'.get? b = some o
  new : h₁.get? e = none
  there : ∃ oe vs a0, h'.get? e = some oe ∧ oe.cls = .type X ∧ oe.data = .fields vs ∧ vs[1]? = some .none ∧ vs[0]? = some a0
theorem get_none_of_le {h : Heap} {a : Addr} (hge : h.objs.size ≤ a) : h.get? a = none := by
  cases e : h.get? a with
  | none => rfl
  | some o => exact absurd (Heap.lt_size e) (Nat.not_lt.mpr hge)
/-- the list iterator's own __next__ at its end: a new StopIteration -/
theorem listiter_end {it l : Addr} {i : Nat} {items : Array Value} {Q : Option Value → Shared → Prop} (hh : A.handled = none) (hit : s.heap.IsListIter it l i) (hl : s.heap.IsList l items) (hx : items[i]? = none)
    (hE : ∀ h₁ h' e, Heap.SameBut it s.heap h₁ → FreshExc h₁ h' e "StopIteration" → E (.ref e) { s with heap := h' }) : wpAny (model prog w) A (callSpecial? (.ref it) "__next__") Q E s := by
  obtain ⟨o, ho, hc, hd⟩ := id hit
  obtain ⟨ol, hol, _, nl, hdl⟩ := hl
  refine wpAny_callSpecial?_slot (name := Str.ofString "__next__") hit.typeIs PySem.slot_listiter_next (wpAny_call_entry PySem.slot_listiter_next hit.typeIs PySem.entry_listiter_next ?_ (PySem.args_listiter_next _))
  show wpAny _ _ (field (.ref it) 0 >>= _) _ _ s
  refine wpAny_bind (wpAny_field ho hd (x := .ref l) rfl ?_)
  show wpAny _ _ (if (Value.ref l == Value.none) = true then _ else _) _ _ s
  rw [if_neg (show ¬ ((Value.ref l == Value.none) = true) from Bool.false_ne_true)]
  show wpAny _ _ (field (.ref it) 1 >>= _) _ _ s
  refine wpAny_bind (wpAny_field ho hd (x := .int i 0) rfl ?_)
  show wpAny _ _ (seqItems? (.ref l) >>= _) _ _ s
  refine wpAny_bind (wpAny_seqItems hol hdl ?_)
  simp only [Int.toNat_natCast, hx]
  refine wpAny_bind (wpAny_rule (wpAny_bind (wpAny_setField ho hd (by simp) ?_)))
  show wpAny _ _ (newExc (.type "StopIteration") [] >>= _) _ _ _
  refine wpAny_bind ?_
  simp only [newExc, newTuple]
  refine wpAny_bind (wpAny_newObj_type ?_ (by size_fits))
  refine wpAny_bind (m := firstArgMember _ _) (wpAny_of_eq (a := Value.none) (by first | rfl | (simp only [firstArgMember]; rfl)) ?_)
  refine wpAny_newObj_type ?_ (by size_fits)
  simp only [raiseNew]
  refine wpAny_bind (wpAny_handled ?_)
  rw [show A.in1.handled = none from hh]
  refine wpAny_bind (wpAny_pure (wpAny_throw ?_))
  refine hE (s.heap.update it (Obj.mapFields fun x => x.setIfInBounds 0 Value.none)) _ _ (Heap.SameBut.update ..) ⟨fun b o' e => Heap.get?_push_of_some _ (Heap.get?_push_of_some _ e), ?_, ?_⟩
  · exact get_none_of_le (by rw [Heap.size_push]; exact Nat.le_succ _)
  · exact ⟨_, _, _, Heap.get?_push_size _ rfl, rfl, rfl, by simp [Array.getElem?_append], by simp [Array.getElem?_append]; rfl⟩
end
end Mine
namespace Mine
abbrev framesOf (fr : List Env) : List Addr := fr.filterMap (·.frame)
/-- from the heap h, at a call, to h', where the exception flies out of it: what stood is as it was, but for I and the frames' slots -/
structure Raised (fr : List Env) (h h' : Heap) (I e : Addr) (X : String) : Prop where
  slots : ∀ b o, b ∈ framesOf fr → h.get? b = some o → ∃ sl, h'.get? b = some { o with slots := sl }
  state : (∃ h₁, (∀ b o, b ≠ I → h.get? b = some o → h₁.get? b = some o) ∧ FreshExc h₁ h' e X) ∨
    (∃ B a0, (∀ b o, b ∉ framesOf fr → b ≠ I → h.get? b = some o → B.get? b = some o) ∧ Heap.FlyingW B fr e (.type X) a0 h')
theorem Raised.keeps {fr : List Env} {h h' : Heap} {I e : Addr} {X : String} (R : Raised fr h h' I e X) {b : Addr} {o : Obj} (hb : b ∉ framesOf fr) (hI : b ≠ I) (ho : h.get? b = some o) : h'.get? b = some o := by
  rcases R.state with ⟨h₁, k, F⟩ | ⟨B, a0, k, F⟩
  · exact F.keeps b o (k b o hI ho)
  · exact F.1 b o (k b o hb hI ho)
theorem Raised.isExc {fr : List Env} {h h' : Heap} {I e : Addr} {X : String} (R : Raised fr h h' I e X) : ∃ o, h'.get? e = some o ∧ o.cls = .type X := by
  rcases R.state with ⟨h₁, k, F⟩ | ⟨B, a0, k, F⟩
  · obtain ⟨oe, vs, a0, he, hc, _⟩ := F.there
    exact ⟨oe, he, hc⟩
  · exact F.there

section
variable {M : Model} {A : Around} {E : Value → Shared → Prop} {s' : Shared}
theorem Raised.leave {env : Env} {fr : List Env} {L I e : Addr} {h h₂ base₀ : Heap} {X : String} {m : Str → Option Value} {Q : Unit → Shared → Prop} {oI oI2 : Obj} {vI vI2 : Array Value}
    (hfr : A.frames = some (env :: fr)) (hf : env.frame = some L) (hk : env.scope.kind ≠ .module) (hl : h.FunFrames base₀ fr) (hI : h.get? I = some oI) (hId : oI.data = .fields vI) (hI2 : h₂.get? I = some oI2) (hId2 : oI2.data = .fields vI2)
    (hL : h.get? L = none) (hn : h₂.Ns L m) (h12 : ∀ b o, b ≠ I → h.get? b = some o → h₂.get? b = some o) (R : Raised (env :: fr) h₂ s'.heap I e X)
    (hQ : ∀ h'', Raised fr h h'' I e X → Q () { s' with heap := h'' }) : wpAny M A (leaving env (.ref e)) Q E s' := by
  have hLI : L ≠ I := by rintro rfl; rw [hL] at hI; cases hI
  have hmem : framesOf (env :: fr) = L :: framesOf fr := by show List.filterMap _ _ = _; rw [List.filterMap_cons, hf]
  have frI : ∀ b ∈ framesOf fr, b ≠ I := by
    rintro b hb rfl
    obtain ⟨_, o, ho, hnf⟩ := hl.mem hb
    rw [hI] at ho; cases ho
    exact hnf _ hId
  have frO : ∀ b ∈ framesOf fr, ∃ o, h.get? b = some o ∧ h₂.get? b = some o ∧ ∀ vs, o.data ≠ .fields vs := by
    intro b hb
    obtain ⟨_, o, ho, hnf⟩ := hl.mem hb
    exact ⟨o, ho, h12 b o (frI b hb) ho, hnf⟩
  have notL : ∀ b o, h.get? b = some o → b ≠ L := by rintro b o e rfl; rw [hL] at e; cases e
  rcases R.state with ⟨h₃, k3, F⟩ | ⟨B, a0, kB, F⟩
  · -- the exception is new here
    have hl₂ : h₂.FunFrames base₀ fr := hl.of_keeps fun b o hb hnf => ⟨o, h12 b o (by rintro rfl; rw [hI] at hb; cases hb; exact hnf _ hId) hb, rfl⟩
    obtain ⟨oL, esL, epL, hoL, hdL, _⟩ := id hn
    have hl₃ : h₃.FunFrames base₀ fr := hl₂.of_keeps fun b o hb hnf => by
      by_cases q : b = I
      · exfalso
        subst q
        rw [hI2] at hb; cases hb
        exact hnf _ hId2
      · exact ⟨o, k3 b o q hb, rfl⟩
    have hn₃ : h₃.Ns L m := hn.at' fun o e => k3 L o hLI e
    have hin : ∀ env' ∈ fr, ∀ a, env'.frame = some a → a ∈ framesOf (env :: fr) := fun env' he a ha => by
      rw [hmem]; exact List.mem_cons_of_mem _ (List.mem_filterMap.mpr ⟨env', he, ha⟩)
    have H₃ : h₃.FunFrames (hideAll h₃ (framesOf (env :: fr))) (env :: fr) :=
      Heap.FunFrames.cons hk hf hn₃ (hideAll_none _ (by rw [hmem]; exact List.mem_cons_self)) (by
        have hh : ∀ (l : List Env), h₃.FunFrames base₀ l → (∀ env' ∈ l, ∀ a, env'.frame = some a → a ∈ framesOf (env :: fr)) → h₃.FunFrames (hideAll h₃ (framesOf (env :: fr))) l := fun l => funFrames_hide
        exact hh fr hl₃ hin)
    have H' := H₃.of_keeps fun b o hb _ => ⟨o, F.keeps b o hb, rfl⟩
    obtain ⟨oe, vs, a0, he, hc, hd, h1, h0⟩ := F.there
    have hen : (hideAll h₃ (framesOf (env :: fr))).get? e = none := by
      cases q : (hideAll h₃ (framesOf (env :: fr))).get? e with
      | none => rfl
      | some o => have := of_hideAll _ q; rw [F.new] at this; cases this
    refine wpAny_leaving_firstW hfr H' hf he (fun b o q => F.keeps b o (of_hideAll _ q)) hen hd h1 h0 fun h'' hLW => ?_
    obtain ⟨w1, ⟨_, _, w2⟩, w3, w4⟩ := hLW
    refine hQ h'' ⟨?_, .inr ⟨hideAll h₃ (framesOf (env :: fr)), a0, ?_, w1, hen, w2, by rw [← hc]; exact w3⟩⟩
    · intro b o hb ho
      obtain ⟨o', ho', ho2, hnf⟩ := frO b hb
      rw [ho] at ho'; cases ho'
      exact w4 b o (F.keeps b o (k3 b o (frI b hb) ho2)) hnf
    · intro b o hb hbI ho
      exact hideAll_get _ (k3 b o hbI (h12 b o hbI ho)) (by rw [hmem]; exact fun q => (List.mem_cons.mp q).elim (notL b o ho) hb)
  · -- it has been noted by an inner frame
    refine wpAny_leaves_onW hfr hf F fun h'' hfl hup => hQ h'' ⟨?_, .inr ⟨B, a0, ?_, hfl⟩⟩
    · intro b o hb ho
      obtain ⟨o', ho', ho2, hnf⟩ := frO b hb
      rw [ho] at ho'; cases ho'
      obtain ⟨sl, hs⟩ := R.slots b o (by rw [hmem]; exact List.mem_cons_of_mem _ hb) ho2
      obtain ⟨sl', hs'⟩ := hup b _ hs (by intro vs; exact hnf vs)
      exact ⟨sl', hs'⟩
    · intro b o hb hbI ho
      exact kB b o (by rw [hmem]; exact fun q => (List.mem_cons.mp q).elim (notL b o ho) hb) hbI (h12 b o hbI ho)
end
end Mine
namespace Mine
noncomputable abbrev KF (w : World) : Frag := hd.heap_39 w.params
abbrev PP : Program := PySem.Challenge.rw_kn0115_04.row.prog
abbrev ffObj (dx : Addr) (it : Value) (b : Addr) : Obj := { cls := .ref 47, dict := some dx, data := .plain, slots := #[some (.ref b), some it] }
def ChainAt (h : Heap) (I : Addr) : List (Int → Bool) → Value → Prop
  | [], v => v = .ref I
  | Sf :: r, v => ∃ x dx b S so it, v = .ref x ∧ h.get? x = some (ffObj dx it b) ∧ h.get? dx = some (dictOf [] 0) ∧ h.get? b = some (boundHas S) ∧ h.get? S = some so ∧ IsHas so Sf ∧ ChainAt h I r it
theorem ChainAt.move {h h' : Heap} {I : Addr} {oI : Obj} (hI : h.get? I = some oI) (hc : oI.cls = .type "list_iterator") (k : ∀ b o, b ≠ I → h.get? b = some o → h'.get? b = some o) :
    ∀ {fs : List (Int → Bool)} {v : Value}, ChainAt h I fs v → ChainAt h' I fs v
  | [], _, e => e
  | _ :: _, _, ⟨x, dx, b, S, so, it, e, h1, h2, h3, h4, h5, h6⟩ => by
    have ne : ∀ {a : Addr} {o : Obj}, h.get? a = some o → o.cls ≠ .type "list_iterator" → a ≠ I := by
      rintro a o ho hne rfl
      rw [hI] at ho; cases ho
      exact hne hc
    obtain ⟨es, ep, t, rfl⟩ := h5.shape
    exact ⟨x, dx, b, S, _, it, e, k _ _ (ne h1 (by simp)) h1, k _ _ (ne h2 (by simp)) h2, k _ _ (ne h3 (by simp)) h3, k _ _ (ne h4 (by simp)) h4, h5, h6.move hI hc k⟩
theorem ffInst {h : Heap} {x dx : Addr} {it : Value} {b : Addr} (h1 : h.get? x = some (ffObj dx it b)) (h2 : h.get? dx = some (dictOf [] 0)) : InstAt h x (ffObj dx it b) 47 (some (dictOf [] 0)) := ⟨h1, rfl, rfl, h2⟩
section
variable {w : World} {A : Around} {E : Value → Shared → Prop} {s : Shared} {p : Program} {loose : List Str} {mg mb : Str → Option Value}

theorem get_func {x dx b : Addr} {it : Value} {expr : Bool} {Q : Value → Shared → Prop} (hX : (KF w).In s.heap) (h1 : s.heap.get? x = some (ffObj dx it b)) (h2 : s.heap.get? dx = some (dictOf [] 0)) (h : Q (.ref b) { s with toks := s.toks + 1 }) :
    wpAny (model PP w) A (getAttr (.ref x) "_func" expr) Q E s :=
  get_bind hX (ffInst h1 h2) (plainGet_of (name := "_it") (by kernel_rfl)).1 (findObj_data (a := .ref 48) (g := .builtin "member_descriptor.__get__") (by kernel_rfl) (by kernel_rfl) (by kernel_rfl) (by kernel_rfl)) (plainGet_of (name := "_func") (by kernel_rfl)).2
    (wpAny_call (slot_get (s := { s with toks := s.toks + 1 }) (i := 0) hX (ffInst h1 h2) (by kernel_rfl) rfl (handed_on rfl h)))
theorem get_it {x dx b : Addr} {it : Value} {expr : Bool} {Q : Value → Shared → Prop} (hX : (KF w).In s.heap) (h1 : s.heap.get? x = some (ffObj dx it b)) (h2 : s.heap.get? dx = some (dictOf [] 0)) (hi : handedIn it = true) (h : Q it { s with toks := s.toks + 1 }) :
    wpAny (model PP w) A (getAttr (.ref x) "_it" expr) Q E s :=
  get_bind hX (ffInst h1 h2) (plainGet_of (name := "_it") (by kernel_rfl)).1 (findObj_data (a := .ref 49) (g := .builtin "member_descriptor.__get__") (by kernel_rfl) (by kernel_rfl) (by kernel_rfl) (by kernel_rfl)) (plainGet_of (name := "_it") (by kernel_rfl)).2
    (wpAny_call (slot_get (s := { s with toks := s.toks + 1 }) (i := 1) hX (ffInst h1 h2) (by kernel_rfl) rfl (handed_on hi h)))
theorem next_name {env : Env} {pos : Pos} {Q : Value → Shared → Prop} (hX : (KF w).In s.heap) (T : TopRead p loose mg mb s.heap) (hk : env.scope.kind = .function) (hx : env.kindOf "next" = some .globalImplicit) (hg : env.globals = mainGlobals) (hb : env.builtins = builtinsNs) (h : Q (.builtin "next") s) :
    wpAny (model PP w) A (eval (.Name "next" pos) env) Q E s :=
  Name_function_global hk hx (loadGlobal_builtin (hg ▸ T.g) (mg_none_of hX T.g (by kernel_rfl)) (hb ▸ T.b) ((T.builtins _ (by decide)).trans (by boot_by_name)) h) (by decide)
theorem bool_name {env : Env} {pos : Pos} {Q : Value → Shared → Prop} (hX : (KF w).In s.heap) (T : TopRead p loose mg mb s.heap) (hk : env.scope.kind = .function) (hx : env.kindOf "bool" = some .globalImplicit) (hg : env.globals = mainGlobals) (hb : env.builtins = builtinsNs) (h : Q (.type "bool") s) :
    wpAny (model PP w) A (eval (.Name "bool" pos) env) Q E s :=
  Name_function_global hk hx (loadGlobal_builtin (hg ▸ T.g) (mg_none_of hX T.g (by kernel_rfl)) (hb ▸ T.b) ((T.builtins _ (by decide)).trans (by boot_by_name)) h) (by decide)
end
end Mine
namespace Mine
section
variable {w : World} {A : Around} {E : Value → Shared → Prop} {s : Shared} {p : Program} {loose : List Str} {mg mb : Str → Option Value}

/-- no filter of the chain takes a out -/
def Passes (fs : List (Int → Bool)) (a : Int) : Prop := ∀ f ∈ fs, f a = false
def valAt (items : Array Value) (j : Nat) : Int := match items[j]? with
  | some (.int a _) => a
  | _ => 0
/-- what the call of __next__ is to show: the first item from i on that passes, or none and the end -/
structure NextOk (fs : List (Int → Bool)) (items : Array Value) (I l : Addr) (i : Nat) (fr : List Env) (Q : Option Value → Shared → Prop) (E : Value → Shared → Prop) (s : Shared) : Prop where
  ok : ∀ j a t h' tk, i ≤ j → items[j]? = some (.int a t) → Passes fs a → (∀ k, i ≤ k → k < j → ¬ Passes fs (valAt items k)) → h'.IsListIter I l (j + 1) → (∀ b o, b ≠ I → s.heap.get? b = some o → h'.get? b = some o) →
    Q (some (.int a t)) { s with heap := h', toks := tk }
  stop : ∀ e h' tk, (∀ k, i ≤ k → k < items.size → ¬ Passes fs (valAt items k)) → Raised fr s.heap h' I e "StopIteration" → E (.ref e) { s with heap := h', toks := tk }

def AllInt (items : Array Value) : Prop := ∀ (j : Nat) (v : Value), items[j]? = some v → ∃ a t, v = Value.int a t

theorem callWith_bm1 {M : Model} {pos : Pos} {u S : Addr} {e : PySem.Expr} {rest : List PySem.Expr} {env : Env} {Q : Value → Shared → Prop}
    (h : wpAny M A (spliced (backTo pos (starEach (e :: rest) env))) (fun vs s₁ => s₁.heap.get? u = some (boundHas S) ∧ wpAny M A (call (.ref u) vs) Q E s₁) E s)
    (he : starEach (e :: rest) env = (false, eval e env) :: starEach rest env := by rfl) (hplain : (backTo pos (starEach rest env)).any (·.1) = false := by rfl) :
    wpAny M A (callWith pos (.ref u) [] (backTo pos (starEach (e :: rest) env)) []) Q E s := by
  rw [he] at h ⊢
  exact callWith_bm (by show (false || (backTo pos (starEach rest env)).any (·.1)) = false; rw [hplain]; rfl) (evalArgs_plain h)

theorem next_chain {I l : Addr} {items : Array Value} {h₀ : Heap} (hall : AllInt items) (hX₀ : (KF w).In h₀) (T₀ : TopRead p loose mg mb h₀) (hI₀ : h₀.get? I = none) : ∀ (fs : List (Int → Bool)) {v : Value} {A : Around} {fr : List Env} {i : Nat} {Q : Option Value → Shared → Prop} {E : Value → Shared → Prop} {s : Shared},
    (∀ b o, h₀.get? b = some o → s.heap.get? b = some o) → A.frames = some fr → s.heap.FunFrames {} fr → A.handled = none → A.depth + fs.length + 2 < recursionLimit →
    s.heap.IsListIter I l i → s.heap.IsList l items → ChainAt s.heap I fs v → NextOk fs items I l i fr Q E s → wpAny (model PP w) A (callSpecial? v "__next__") Q E s
  | [], v, A, fr, i, Q, E, s, hk₀, hfr, hfun, hh, hd, hit, hl, hc, hQ => by
    cases hc
    cases hx : items[i]? with
    | some v =>
      obtain ⟨a, t, rfl⟩ := hall i v hx
      refine listiter_item hit hl hx fun h' hit' hs => ?_
      exact hQ.ok i a t h' s.toks (Nat.le_refl _) hx (fun f hf => nomatch hf) (fun k h1 h2 => absurd h2 (Nat.not_lt.mpr h1)) hit' fun b o hb e => hs.extBut b o hb e
    | none =>
      refine listiter_end hh hit hl hx fun h₁ h' e hs hF => ?_
      refine hQ.stop e h' s.toks (fun k h1 h2 => ?_) ⟨fun b o hb ho => ?_, .inl ⟨h₁, fun b o hb e => hs.extBut b o hb e, hF⟩⟩
      · have : items.size ≤ i := by simpa using hx
        omega
      · obtain ⟨oI, hoI, _, hdI⟩ := hit
        obtain ⟨_, o', ho', hnf⟩ := hfun.mem hb
        have hbI : b ≠ I := by
          rintro rfl
          rw [hoI] at ho'; cases ho'
          exact hnf _ hdI
        exact ⟨o.slots, hF.keeps b o (hs.extBut b o hbI ho)⟩
  | Sf :: r, v, A, fr, i, Q, E, s, hk₀, hfr, hfun, hh, hd, hit, hl, hc, hQ => by
    obtain ⟨x, dx, b, S, so, it, rfl, h1, h2, h3, h4, h5, h6⟩ := hc
    have hX := hX₀.keeps hk₀
    have T := T₀.keeps hk₀
    have hf := hX 43 _ (rfl : (KF w).lookup 43 = some _)
    refine special_fn (f := 43) hX (ffInst h1 h2) (by kernel_rfl) (by kernel_rfl) ?_
    refine wpAny_call (codeAny_call_def (binds := [(("self" : Str), .ref x)]) (by omega) hf rfl T.nolimit (codeRec_of hX (by kernel_rfl)) rfl (BindsTo.of_eq rfl) (by decide) (locs rfl) ?_ rfl rfl rfl)
    intro h₁ hns hk
    dsimp only
    have hLn : s.heap.get? s.heap.objs.size = none := get_none_of_le (Nat.le_refl _)
    generalize s.heap.objs.size = L at hns hLn ⊢
    refine wpAny_execs_cons (wpAny_Assign_Name (Attribute_name ?_))
    refine wpAny_Name (wpAny_loadName_local rfl rfl hns (v := .ref x) rfl ?_)
    refine get_func (fun a o e => hk _ _ (hX a o e)) (hk _ _ h1) (hk _ _ h2) ?_
    refine wpAny_storeName_local rfl hns (fun h₂ hns₂ hs₂ => ?_) rfl
    dsimp only
    obtain ⟨oI, hoI, hcI, hdI⟩ := id hit
    obtain ⟨ol, hol, hcl, nl, hdl⟩ := id hl
    have hlI : l ≠ I := by rintro rfl; rw [hoI] at hol; cases hol; rw [hcI] at hcl; simp at hcl
    have notL : ∀ b o, s.heap.get? b = some o → b ≠ L := by rintro b o e rfl; rw [hLn] at e; cases e
    have k2 : ∀ b o, s.heap.get? b = some o → h₂.get? b = some o := fun b o e => hs₂.extBut b o (notL b o e) (hk b o e)
    refine wpAny_execs_cons (wpAny_While (codeAny_whileLoop (fun k s' => ∃ h' tk m' j, s' = { s with heap := h', toks := tk } ∧ h'.Ns L m' ∧ m' "self" = some (.ref x) ∧ m' "func" = some (.ref b) ∧ i ≤ j ∧ k = items.size - j ∧
      h'.IsListIter I l j ∧ (∀ b o, b ≠ I → s.heap.get? b = some o → h'.get? b = some o) ∧ (∀ n, i ≤ n → n < j → ¬ Passes (Sf :: r) (valAt items n))) ?turn (items.size - i)
      ⟨h₂, _, _, i, rfl, hns₂, rfl, rfl, Nat.le_refl _, rfl, hit.at fun o e => k2 I o e, fun b o _ e => k2 b o e, fun n h1 h2 => absurd h2 (Nat.not_lt.mpr h1)⟩))
    rintro k s' ⟨h', tk, m', j, rfl, hn, hm1, hm2, hij, rfl, hitj, hkj, hbj⟩
    refine wpAny_passesOwn PassesOwn.leaving (isTrue_plain (wpAny_Constant_bool (wpAny_truthy_bool ?_)))
    rw [if_pos rfl]
    refine wpAny_passesOwn PassesOwn.leaving (wpAny_execs_cons (wpAny_Assign_Name (Call_ ?_)))
    have hne : ∀ {a : Addr} {o : Obj}, s.heap.get? a = some o → o.cls ≠ .type "list_iterator" → a ≠ I := by
      rintro a o ho hne rfl
      rw [hoI] at ho; cases ho
      exact hne hcI
    have kk : ∀ {h'' : Heap}, (∀ b o, b ≠ I → s.heap.get? b = some o → h''.get? b = some o) → ∀ b o, h₀.get? b = some o → h''.get? b = some o := fun k b o e => k b o (by rintro rfl; rw [hI₀] at e; cases e) (hk₀ b o e)
    refine next_name (hX₀.keeps (kk hkj)) (T₀.keeps (kk hkj)) rfl rfl rfl rfl ?_
    refine PyProof.Rows.callWith_builtin1 ?_
    refine args_cons (Attribute_name (wpAny_Name (wpAny_loadName_local rfl rfl hn hm1 ?_)))
    refine get_it (hX₀.keeps (kk hkj)) (hkj _ _ (hne h1 (by simp)) h1) (hkj _ _ (hne h2 (by simp)) h2) ?_ ?_
    · cases r with
      | nil => cases h6; rfl
      | cons f r' => obtain ⟨_, _, _, _, _, _, rfl, _⟩ := h6; rfl
    refine args_nil ?_
    have hitT : h'.IsListIter I l j := hitj
    have h6' : ChainAt h' I r it := h6.move hoI hcI hkj
    have hnx : HasNext (model PP w) it h' := by
      cases r with
      | nil => cases h6; exact hasNext_listiter hitj
      | cons f r' =>
        obtain ⟨x', dx', b', S', so', it', rfl, g1, g2, _⟩ := h6'
        exact ⟨_, (ffInst g1 g2).type.andThen (looks_findIn (r := some (.ref 43)) (hX₀.keeps (kk hkj)) (by kernel_rfl))⟩
    refine next_open1 hnx ?_
    refine next_chain hall hX₀ T₀ hI₀ r (fr := _ :: fr) (i := j) (kk hkj) (by rw [Around.in1_frames]; exact Around.frames_deeper hfr) (.cons (by show ScopeKind.function ≠ ScopeKind.module; decide) rfl hn (get_none_of_le (Nat.zero_le _)) ?_) hh (by simp only [List.length_cons] at hd; show A.depth + 1 + r.length + 2 < recursionLimit; omega) hitj ?_ h6' ⟨?ok, ?stop⟩
    case ok =>
      intro j2 a t h'' tk2 hj2 hx hp hb2 hit2 hk2
      have hk02 : ∀ b o, b ≠ I → s.heap.get? b = some o → h''.get? b = some o := fun b o q e => hk2 b o q (hkj b o q e)
      have hn2 : h''.Ns L m' := hn.at' fun o e => hk2 L o (by rintro rfl; rw [hLn] at hoI; cases hoI) e
      refine ⟨_, rfl, wpAny_storeName_local rfl hn2 (fun h₃ hn₃ hs₃ => ?_) rfl⟩
      dsimp only
      have hk03 : ∀ b o, b ≠ I → s.heap.get? b = some o → h₃.get? b = some o := fun b o q e => hs₃.extBut b o (notL b o e) (hk02 b o q e)
      have hm1' : (fun y => if y = ("item" : Str) then some (Value.int a t) else m' y) "self" = some (.ref x) := by show (if ("self" : Str) = "item" then _ else _) = _; rw [if_neg (by decide)]; exact hm1
      have hm2' : (fun y => if y = ("item" : Str) then some (Value.int a t) else m' y) "func" = some (.ref b) := by show (if ("func" : Str) = "item" then _ else _) = _; rw [if_neg (by decide)]; exact hm2
      have hm3' : (fun y => if y = ("item" : Str) then some (Value.int a t) else m' y) "item" = some (Value.int a t) := by show (if ("item" : Str) = "item" then _ else _) = _; rw [if_pos rfl]
      refine wpAny_execs_cons (wpAny_If (isTrue_or (wpAny_isTrue_Compare1 (wpAny_Name (wpAny_loadName_local rfl rfl hn₃ hm2' (wpAny_Constant_none (wpAny_is_other (by rfl) (by simp) (wpAny_truthy_bool ?_))))))))
      rw [if_neg Bool.false_ne_true]
      refine isTrue_or (wpAny_isTrue_Compare1 (wpAny_Name (wpAny_loadName_local rfl rfl hn₃ hm2' (bool_name (hX₀.keeps (kk hk03)) (T₀.keeps (kk hk03)) rfl rfl rfl rfl (wpAny_is_other (by rfl) (by simp) (wpAny_truthy_bool ?_))))))
      rw [if_neg Bool.false_ne_true]
      refine isTrue_or_nil ?_
      rw [if_neg Bool.false_ne_true]
      refine wpAny_execs_cons (wpAny_If (isTrue_not (isTrue_plain (Call_ (wpAny_Name (wpAny_loadName_local rfl rfl hn₃ hm2' ?_))))))
      refine callWith_bm1 (S := S) (args_cons (wpAny_Name (wpAny_loadName_local rfl rfl hn₃ hm3' (args_nil ⟨hk03 _ _ (hne h3 (by simp)) h3, ?_⟩))))
      obtain ⟨nS, hSet⟩ := IsHas.setOf (prog := PP) (w := w) h5 (hk03 _ _ (hne h4 (by obtain ⟨_, _, _, rfl⟩ := h5.shape; simp)) h4)
      refine call_has (knd := intKind PP w) (k := a) (hk03 _ _ (hne h3 (by simp)) h3) (intKind_is _ _ _ _) rfl hSet ?_
      refine wpAny_truthy_bool ?_
      have hva : valAt items j2 = a := by unfold valAt; rw [hx]
      have hbig : ∀ n, i ≤ n → n < j2 → ¬ Passes (Sf :: r) (valAt items n) := fun n h1 h2 q => by
        by_cases hnj : n < j
        · exact hbj n h1 hnj q
        · exact hb2 n (by omega) h2 fun f hf => q f (List.mem_cons_of_mem _ hf)
      have hsz : j2 < items.size := (Array.getElem?_eq_some_iff.mp hx).1
      have hitj3 : h₃.IsListIter I l (j2 + 1) := hit2.at fun o e => hs₃.extBut I o (notL I _ hoI) e
      cases hSa : Sf a with
      | false =>
        rw [if_pos (by rfl)]
        refine wpAny_execs_cons (wpAny_Return_some (wpAny_Name (wpAny_loadName_local rfl rfl hn₃ hm3' ?_)))
        dsimp only
        exact hQ.ok j2 a t h₃ _ (by omega) hx (fun f hf => (List.mem_cons.mp hf).elim (fun e => e ▸ hSa) (hp f)) hbig hitj3 hk03
      | true =>
        rw [if_neg (by simp)]
        refine wpAny_execs_nil ?_
        dsimp only
        refine wpAny_execs_nil ?_
        dsimp only
        refine wpAny_execs_nil ?_
        dsimp only
        refine ⟨items.size - (j2 + 1), by omega, h₃, _, _, j2 + 1, rfl, hn₃, hm1', hm2', by omega, rfl, hitj3, hk03, fun n h1 h2 q => ?_⟩
        by_cases hnj : n = j2
        · subst hnj
          have := q Sf List.mem_cons_self
          rw [hva, hSa] at this; cases this
        · exact hbig n h1 (by omega) q
    case stop =>
      intro e h'' tk2 hb2 R
      obtain ⟨oI2, hoI2, _, hdI2⟩ := id hitj
      refine R.leave (s' := { s with heap := h'', toks := tk2 }) (Around.frames_deeper hfr) rfl (by show ScopeKind.function ≠ ScopeKind.module; decide) hfun hoI hdI hoI2 hdI2 hLn hn hkj fun h3 R3 => ?_
      refine hQ.stop e h3 tk2 (fun n h1 h2 q => ?_) R3
      by_cases hnj : n < j
      · exact hbj n h1 hnj q
      · exact hb2 n (by omega) h2 fun f hf => q f (List.mem_cons_of_mem _ hf)
    · exact hfun.of_keeps fun b o hb hnf => ⟨o, hkj b o (by rintro rfl; rw [hoI] at hb; cases hb; exact hnf _ hdI) hb, rfl⟩
    · exact hl.at fun o e => hkj l o hlI e
end
end Mine
namespace Mine
/-- the list iterator's object: it stands at i of l -/
def IsLI (o : Obj) (l : Addr) (i : Nat) : Prop := o.cls = .type "list_iterator" ∧ o.data = .fields #[.ref l, .int i 0]
theorem IsLI.at {h : Heap} {I l : Addr} {o : Obj} {i : Nat} (x : IsLI o l i) (ho : h.get? I = some o) : h.IsListIter I l i := ⟨o, ho, x.1, x.2⟩
/-- the chain's objects stand in the ledger -/
def ChainIn (news : List (Addr × Obj)) (I : Addr) : List (Int → Bool) → Value → Prop
  | [], v => v = .ref I
  | Sf :: r, v => ∃ x dx b S so it, v = .ref x ∧ (x, ffObj dx it b) ∈ news ∧ (dx, dictOf [] 0) ∈ news ∧ (b, boundHas S) ∈ news ∧ (S, so) ∈ news ∧ IsHas so Sf ∧ ChainIn news I r it
theorem ChainIn.mono {news news' : List (Addr × Obj)} {I : Addr} (k : ∀ p ∈ news, p ∈ news') : ∀ {fs : List (Int → Bool)} {v : Value}, ChainIn news I fs v → ChainIn news' I fs v
  | [], _, e => e
  | _ :: _, _, ⟨x, dx, b, S, so, it, e, h1, h2, h3, h4, h5, h6⟩ => ⟨x, dx, b, S, so, it, e, k _ h1, k _ h2, k _ h3, k _ h4, h5, h6.mono k⟩
theorem ChainIn.at {news : List (Addr × Obj)} {I : Addr} {h : Heap} (k : ∀ p ∈ news, h.get? p.1 = some p.2) : ∀ {fs : List (Int → Bool)} {v : Value}, ChainIn news I fs v → ChainAt h I fs v
  | [], _, e => e
  | _ :: _, _, ⟨x, dx, b, S, so, it, e, h1, h2, h3, h4, h5, h6⟩ => ⟨x, dx, b, S, so, it, e, k _ h1, k _ h2, k _ h3, k _ h4, h5, h6.at k⟩
theorem ChainAt.hasNext {w : World} {h : Heap} {I l : Addr} {i : Nat} (hX : (KF w).In h) (hit : h.IsListIter I l i) : ∀ {fs : List (Int → Bool)} {v : Value}, ChainAt h I fs v → HasNext (model PP w) v h
  | [], _, e => by cases e; exact hasNext_listiter hit
  | _ :: _, _, ⟨x, dx, b, S, so, it, e, h1, h2, _⟩ => by subst e; exact ⟨_, (ffInst h1 h2).type.andThen (looks_findIn (r := some (.ref 43)) hX (by kernel_rfl))⟩

section
variable {w : World} {A : Around} {E : Value → Shared → Prop} {s : Shared} {p : Program} {loose : List Str} {mg mb : Str → Option Value} {h₀ : Heap} {L : Addr} {m : Str → Option Value} {news own : List (Addr × Obj)}

theorem pyNext_chain {I l : Addr} {items : Array Value} {fs : List (Int → Bool)} {v : Value} {fr : List Env} {i : Nat} {Q : Option Value → Shared → Prop} (hall : AllInt items) (hX₀ : (KF w).In h₀) (T₀ : TopRead p loose mg mb h₀) (hI₀ : h₀.get? I = none)
    (hk₀ : ∀ b o, h₀.get? b = some o → s.heap.get? b = some o) (hfr : A.frames = some fr) (hfun : s.heap.FunFrames {} fr) (hh : A.handled = none) (hd : A.depth + fs.length + 2 < recursionLimit)
    (hit : s.heap.IsListIter I l i) (hl : s.heap.IsList l items) (hc : ChainAt s.heap I fs v)
    (ok : ∀ j a t h' tk, i ≤ j → items[j]? = some (.int a t) → Passes fs a → (∀ k, i ≤ k → k < j → ¬ Passes fs (valAt items k)) → h'.IsListIter I l (j + 1) → (∀ b o, b ≠ I → s.heap.get? b = some o → h'.get? b = some o) → Q (some (.int a t)) { s with heap := h', toks := tk })
    (stop : ∀ e h' tk, (∀ k, i ≤ k → k < items.size → ¬ Passes fs (valAt items k)) → Raised fr s.heap h' I e "StopIteration" → Q none { s with heap := h', toks := tk }) :
    wpAny (model PP w) A (pyNext v) Q E s := by
  unfold pyNext
  refine wpAny_bind (wpAny_attempt (next_chain hall hX₀ T₀ hI₀ fs hk₀ hfr hfun hh hd hit hl hc ⟨?_, ?_⟩))
  · intro j a t h' tk h1 h2 h3 h4 h5 h6
    exact wpAny_pure (ok j a t h' tk h1 h2 h3 h4 h5 h6)
  · intro e h' tk h1 R
    refine wpAny_bind (wpAny_isInstance (T := "StopIteration") (b := true) (s := { s with heap := h', toks := tk }) R.isExc PySem.isSubtype_stop ?_)
    exact wpAny_pure (stop e h' tk h1 R)

theorem Fr.raised {env : Env} {h' : Heap} {I e : Addr} {X : String} (F : Fr h₀ L s.heap m) (hf : env.frame = some L) (hI₀ : h₀.get? I = none) (R : Raised [env] s.heap h' I e X) : Fr h₀ L h' m := by
  obtain ⟨oL, es, ep, hL, hd, r⟩ := F.ns
  obtain ⟨sl, hs⟩ := R.slots L oL (by simp [framesOf, hf]) hL
  refine ⟨⟨_, es, ep, hs, hd, r⟩, fun b o e => ?_, F.above⟩
  refine R.keeps ?_ (by rintro rfl; rw [hI₀] at e; cases e) (F.keep b o e)
  simp only [framesOf, List.filterMap_cons, hf, List.filterMap_nil, List.mem_singleton]
  exact Nat.ne_of_lt (Nat.lt_of_lt_of_le (Heap.lt_size e) F.above)

/-- next(chain, default), in a frame that nothing stands around; the ledger has the iterator's object at its head -/
theorem next2_N {I l : Addr} {oI : Obj} {items : Array Value} {fs : List (Int → Bool)} {v d : Value} {env : Env} {i : Nat} {Q : Value → Shared → Prop} (hall : AllInt items) (F : Fr h₀ L s.heap m) (N : News h₀ L s.heap ((I, oI) :: news)) (hX₀ : (KF w).In h₀) (T₀ : TopRead p loose mg mb h₀)
    (hA : A.frames = some [env]) (hf : env.frame = some L) (hk : env.scope.kind ≠ .module) (hh : A.handled = none) (hd : A.depth + fs.length + 2 < recursionLimit)
    (hI : IsLI oI l i) (hl : s.heap.IsList l items) (hc : ChainIn ((I, oI) :: news) I fs v) (off : ∀ q ∈ news, q.1 ≠ I)
    (ok : ∀ j a t h' tk oI', i ≤ j → items[j]? = some (.int a t) → Passes fs a → (∀ k, i ≤ k → k < j → ¬ Passes fs (valAt items k)) → IsLI oI' l (j + 1) → Fr h₀ L h' m → News h₀ L h' ((I, oI') :: news) → Q (.int a t) { s with heap := h', toks := tk })
    (stop : ∀ h' tk, (∀ k, i ≤ k → k < items.size → ¬ Passes fs (valAt items k)) → Fr h₀ L h' m → News h₀ L h' news → Q d { s with heap := h', toks := tk }) :
    wpAny (model PP w) A (call (.builtin "next") [v, d]) Q E s := by
  have hmI := N _ List.mem_cons_self
  have hcA := hc.at fun q hq => (N q hq).1
  have hit := hI.at hmI.1
  have hLI : L ≠ I := Ne.symm hmI.2.1
  have hnotI : ∀ b o, h₀.get? b = some o → b ≠ I := by rintro b o e rfl; rw [hmI.2.2] at e; cases e
  refine next_open2 (hcA.hasNext (hX₀.keeps F.keep) hit) ?_
  refine pyNext_chain hall hX₀ T₀ hmI.2.2 F.keep (by rw [Around.in1_frames]; exact hA) (.cons (outer := []) hk hf F.ns (get_none_of_le (Nat.zero_le _)) trivial) hh hd hit hl hcA ?_ ?_
  · intro j a t h' tk h1 h2 h3 h4 h5 h6
    obtain ⟨oI', hoI', hc', hd'⟩ := h5
    refine ok j a t h' tk oI' h1 h2 h3 h4 ⟨hc', hd'⟩ ⟨F.ns.at' fun o e => h6 L o hLI e, fun b o e => h6 b o (hnotI b o e) (F.keep b o e), F.above⟩ fun q hq => ?_
    rcases List.mem_cons.mp hq with rfl | hq
    · exact ⟨hoI', hmI.2⟩
    · exact ⟨h6 _ _ (off q hq) (N q (List.mem_cons_of_mem _ hq)).1, (N q (List.mem_cons_of_mem _ hq)).2⟩
  · intro e h' tk h1 R
    refine stop h' tk h1 (Fr.raised F hf hmI.2.2 R) fun q hq => ?_
    have hq' := N q (List.mem_cons_of_mem _ hq)
    refine ⟨R.keeps ?_ (off q hq) hq'.1, hq'.2⟩
    simp only [framesOf, List.filterMap_cons, hf, List.filterMap_nil, List.mem_singleton]
    exact hq'.2.1
end
end Mine
namespace Mine
section
variable {w : World} {p : Program} {loose : List Str} {mg mb : Str → Option Value} {h : Heap}
theorem selfIter_ff {x dx b : Addr} {it : Value} (hX : (KF w).In h) (T : TopRead p loose mg mb h) (h1 : h.get? x = some (ffObj dx it b)) (h2 : h.get? dx = some (dictOf [] 0)) : SelfIter PP w (.ref x) h := by
  intro A Q E s hd hu k q
  have X := hX.keeps k
  have T' := T.keeps k
  have I := ffInst (k _ _ h1) (k _ _ h2)
  have hs : findIn (KF w) (.ref 47) "__iter__" = some (some (.ref 36)) := by kernel_rfl
  have hn : findIn (KF w) (.ref 47) "__next__" = some (some (.ref 43)) := by kernel_rfl
  have hf : typeIn (KF w) (.ref 36) = some (.type "function") := by kernel_rfl
  have hfo := X 36 _ (rfl : (KF w).lookup 36 = some _)
  have called : ∀ {α : Type} (f : Value → Sem α) (P : α → Shared → Prop), (∀ tk h', (∀ b o, s.heap.get? b = some o → h'.get? b = some o) → wpAny (model PP w) A (f (.ref x)) P E { s with heap := h', toks := tk }) → wpAny (model PP w) A (call (.ref 36) [.ref x] >>= f) P E s := by
    intro α f P hp
    refine wpAny_bind (wpAny_call (codeAny_call_def (binds := [(("self" : Str), .ref x)]) (by omega) hfo rfl T'.nolimit (codeRec_of X (by kernel_rfl)) rfl (BindsTo.of_eq rfl) (by decide) (locs rfl) ?_ rfl rfl rfl))
    intro h₁ hns hk
    dsimp only
    refine wpAny_execs_cons (wpAny_Return_some (wpAny_Name (wpAny_loadName_local rfl rfl hns (v := .ref x) rfl ?_)))
    dsimp only
    exact hp _ _ hk
  have one : ∀ refuse : Sem Value, wpAny (model PP w) A (callSpecialIfBoundUnlessNone? (.ref x) "__iter__" refuse) (fun r s' => r = some (.ref x) ∧ ∃ tk h', (∀ b o, s.heap.get? b = some o → h'.get? b = some o) ∧ s' = { s with heap := h', toks := tk }) E s := by
    intro refuse
    simp only [callSpecialIfBoundUnlessNone?, bindSpecialIfBound?]
    refine wpAny_holding (wpAny_bind (wpAny_bind (wpAny_bind (I.type.here ((looks_findIn X hs).here ?_)))))
    refine wpAny_bind (wpAny_askSetting (wpAny_ite ?_))
    have fin : wpAny (model PP w) A (if (Value.ref 36 == Value.none) = true then (refuse >>= fun v => pure (some v)) else (call (.ref 36) [.ref x] >>= fun v => pure (some v)))
        (fun r s' => r = some (.ref x) ∧ ∃ tk h', (∀ b o, s.heap.get? b = some o → h'.get? b = some o) ∧ s' = { s with heap := h', toks := tk }) E s := by
      rw [if_neg (show ¬ ((Value.ref 36 == Value.none) = true) from Bool.false_ne_true)]
      exact called _ _ fun tk h' hk => wpAny_pure ⟨rfl, tk, h', hk, rfl⟩
    split
    · exact wpAny_bind ((bind_fn X _ hf).here (wpAny_pure (by exact fin)))
    · exact wpAny_tryCatch (wpAny_bind ((bind_fn X _ hf).here (wpAny_pure (by exact fin))))
  unfold pyIter
  refine wpAny_bind (wpAny_bind (I.type.here ((looks_findIn X hs).here ?_)))
  show wpAny _ A (callSpecialIfBoundUnlessNone? (.ref x) "__iter__" _ >>= _) Q E s
  refine wpAny_bind (wpAny_mono (one _) (fun r s' hr => ?_) fun _ _ z => z)
  obtain ⟨rfl, tk, h', hk, rfl⟩ := hr
  dsimp only
  refine wpAny_bind (wpAny_bind (((ffInst (hk _ _ (k _ _ h1)) (hk _ _ (k _ _ h2))).type).here ((looks_findIn (X.keeps hk) hn).here ?_)))
  exact wpAny_pure (q tk h' hk)
end
end Mine
namespace Mine
section
variable {prog : Program} {w : World} {A : Around} {E : Value → Shared → Prop} {s : Shared} {h₀ : Heap} {L : Addr} {m : Str → Option Value} {news : List (Addr × Obj)}
def FEnd (h₀ : Heap) (L : Addr) (J : Nat → (Str → Option Value) → List (Addr × Obj) → Prop) (n : Nat) (s₁ s₃ : Shared) : Prop :=
  ∃ n' m' news' h' tk', n' < n ∧ s₃ = { s₁ with heap := h', toks := tk' } ∧ Fr h₀ L h' m' ∧ News h₀ L h' news' ∧ J n' m' news'
def FPost (h₀ : Heap) (L : Addr) (J : Nat → (Str → Option Value) → List (Addr × Obj) → Prop) (n : Nat) (s₁ : Shared) (Q : Flow → Shared → Prop) (f : Flow) (s₃ : Shared) : Prop :=
  match f with
  | .next | .cont => FEnd h₀ L J n s₁ s₃
  | .brk => Q .next s₃
  | .ret v => Q (.ret v) s₃
def FTurn (prog : Program) (w : World) (A : Around) (E : Value → Shared → Prop) (h₀ : Heap) (L : Addr) (env : Env) (x : Str) (body : List Stmt) (J : Nat → (Str → Option Value) → List (Addr × Obj) → Prop) (n : Nat) (Q : Flow → Shared → Prop) (s₁ : Shared) (r : Option Value) (s₂ : Shared) : Prop :=
  match r with
  | none => Q .next s₂
  | some y => wpAny (model prog w) A (storeName env x y) (fun _ s₃ => wpAny (model prog w) A (execs body env) (FPost h₀ L J n s₁ Q) E s₃) E s₂
/-- for x in ..: the walk stands behind the iter -/
def ForAt (prog : Program) (w : World) (A : Around) (E : Value → Shared → Prop) (h₀ : Heap) (L : Addr) (env : Env) (x : Str) (body : List Stmt) (Q : Flow → Shared → Prop) (it : Value) (s₁ : Shared) : Prop :=
  ∃ (J : Nat → (Str → Option Value) → List (Addr × Obj) → Prop) (n : Nat) (m : Str → Option Value) (news : List (Addr × Obj)), Fr h₀ L s₁.heap m ∧ News h₀ L s₁.heap news ∧ J n m news ∧
    ∀ n m news h tk, J n m news → Fr h₀ L h m → News h₀ L h news → wpAny (model prog w) A (pyNext it) (FTurn prog w A E h₀ L env x body J n Q s₁) E { s₁ with heap := h, toks := tk }
theorem For_N {env : Env} {x : Str} {px pos : Pos} {iter : PySem.Expr} {body : List Stmt} {Q : Flow → Shared → Prop} (_F : Fr h₀ L s.heap m)
    (h : wpAny (model prog w) A (eval iter env) (fun xv s₁ => wpAny (model prog w) A (pyIter xv) (ForAt prog w A E h₀ L env x body Q) E s₁) E s)
    (hs : ∀ x, foldedSetIterable iter env x = pure x := by intro _; rfl) (hE : PassesOwn (model prog w) A env E := by passes_own) :
    wpAny (model prog w) A (exec (.For (.Name x px) iter body [] pos) env) Q E s := by
  refine wpAny_For (wpAny_mono h (fun xv s₁ h₁ => wpAny_mono h₁ (fun it s₂ h₂ => ?_) fun _ _ z => z) fun _ _ z => z) hs
  obtain ⟨J, n, m', news', F', N', hj, turn⟩ := h₂
  refine codeAny_forLoop (R := fun r s' => match r with | .ok f => Q f s' | .error e => cameBackBy (model prog w) A env E e s') (fun k s' => ∃ m' news' h' tk', s' = { s₂ with heap := h', toks := tk' } ∧ Fr h₀ L h' m' ∧ News h₀ L h' news' ∧ J k m' news') ?_ n ⟨m', news', s₂.heap, s₂.toks, rfl, F', N', hj⟩
  rintro k s' ⟨m', news', h', tk', rfl, F', N', hj'⟩
  refine wpAny_passesOwn hE (wpAny_mono (turn k m' news' h' tk' hj' F' N') (fun r s₁ hr => ?_) fun _ _ z => z)
  cases r with
  | none => exact wpAny_execs_nil hr
  | some y =>
    refine wpAny_passesOwn hE (wpAny_assign_Name (wpAny_mono hr (fun _ s₃ h₃ => ?_) fun _ _ z => z))
    refine wpAny_passesOwn hE (wpAny_mono h₃ (fun f s₄ h₄ => ?_) fun _ _ z => z)
    have fin : FEnd h₀ L J k s₂ s₄ → ∃ m, m < k ∧ ∃ m' news' h' tk', s₄ = { s₂ with heap := h', toks := tk' } ∧ Fr h₀ L h' m' ∧ News h₀ L h' news' ∧ J m m' news' := by
      rintro ⟨n', m', news', h', tk', a, b, c, d, e⟩
      exact ⟨n', a, m', news', h', tk', b, c, d, e⟩
    cases f with
    | next => exact fin h₄
    | cont => exact fin h₄
    | brk => exact h₄
    | ret v => exact h₄

abbrev rangeIterObj (x left step : Int) : Obj := { cls := .type "range_iterator", dict := none, data := .fields #[rawInt x, rawInt left, rawInt step], slots := #[] }
theorem iter_range_N {r : Addr} {a b c : Int} {t u v : Tok} {Q : Value → Shared → Prop} (F : Fr h₀ L s.heap m) (N : News h₀ L s.heap news) (hr : IsRange s.heap r a b c t u v) (hsm : Builtin.Range.small a b c = true)
    (h : ∀ I h', Fr h₀ L h' m → News h₀ L h' ((I, rangeIterObj a (Builtin.Range.rangeSize a b c) c) :: news) → (∀ p ∈ news, p.1 < I) → Q (.ref I) { s with heap := h' }) : wpAny (model prog w) A (pyIter (.ref r)) Q E s := by
  refine wpAny_pyIter_range hr hsm ?_
  exact h _ _ (F.push _) (N.push F _) fun p hp => Heap.lt_size (N p hp).1
theorem next_range_N {I : Addr} {x left step : Int} {pre post : List (Addr × Obj)} {Q : Option Value → Shared → Prop} (F : Fr h₀ L s.heap m) (N : News h₀ L s.heap (pre ++ (I, rangeIterObj x left step) :: post)) (hne : (∀ p ∈ pre, p.1 ≠ I) ∧ ∀ p ∈ post, p.1 ≠ I) (hh : A.handled = none)
    (go : 0 < left → ∀ h' tk t, Fr h₀ L h' m → News h₀ L h' (pre ++ (I, rangeIterObj (x + step) (left - 1) step) :: post) → Q (some (.int x t)) { s with heap := h', toks := tk })
    (stop : left ≤ 0 → ∀ h', Fr h₀ L h' m → News h₀ L h' (pre ++ post) → Q none { s with heap := h' }) : wpAny (model prog w) A (pyNext (.ref I)) Q E s := by
  have hI := N (I, rangeIterObj x left step) (List.mem_append_right _ (.head _))
  rcases (by omega : 0 < left ∨ left ≤ 0) with hl | hl
  · refine wpAny_pyNext_range_item hI.1 hl fun h' hit hs => ?_
    exact go hl _ _ _ (F.change hs hI.2.1 hI.2.2) (N.setAt hne.1 hne.2 hs hit)
  · refine wpAny_pyNext_range_end hh hI.1 hl fun h' hx => ?_
    refine stop hl h' ?_ fun p hp => ?_
    · refine ⟨?_, fun b o e => hx _ _ ?_ (F.keep b o e), F.above⟩
      · exact F.ns.at' fun o e => hx _ _ (Ne.symm hI.2.1) e
      · rintro rfl; rw [hI.2.2] at e; cases e
    · have hp' := N p (by rcases List.mem_append.mp hp with q | q; exact List.mem_append_left _ q; exact List.mem_append_right _ (.tail _ q))
      refine ⟨hx _ _ ?_ hp'.1, hp'.2⟩
      rcases List.mem_append.mp hp with q | q
      · exact hne.1 p q
      · exact hne.2 p q
end
end Mine
namespace Mine
section
variable {prog : Program} {w : World} {A : Around} {E : Value → Shared → Prop} {s : Shared} {h₀ : Heap} {L : Addr} {m : Str → Option Value} {news : List (Addr × Obj)}
/-- a quiet test of a comprehension's turn -/
def QuietT (prog : Program) (w : World) (A : Around) (h₀ : Heap) (news : List (Addr × Obj)) (cenv : Addr → Env) (x : Str) (ifs : List PySem.Expr) (P : Value → Prop) (p : Value → Bool) : Prop :=
  ∀ C v h tk m₃ E' g d o, P v → Fr h₀ C h m₃ → News h₀ C h news → m₃ x = some v →
    wpAny (model prog w) A (forIn ifs true fun c r => if r = true then do let ok ← isTrue c (cenv C) (eval c (cenv C)); pure (ForInStep.yield ok) else pure (ForInStep.yield r)) (fun ok s₄ => ok = p v ∧ Keeps { heap := h, toks := tk, gens := g, drawn := d, os := o } s₄) E' { heap := h, toks := tk, gens := g, drawn := d, os := o }
def QuietE (prog : Program) (w : World) (A : Around) (h₀ : Heap) (news : List (Addr × Obj)) (cenv : Addr → Env) (x : Str) (elt : PySem.Expr) (P : Value → Prop) (p : Value → Bool) (R : Value → Value → Prop) : Prop :=
  ∀ C v h tk m₃ E' g d o, P v → p v = true → Fr h₀ C h m₃ → News h₀ C h news → m₃ x = some v →
    wpAny (model prog w) A (eval elt (cenv C)) (fun y s₄ => R v y ∧ Keeps { heap := h, toks := tk, gens := g, drawn := d, os := o } s₄) E' { heap := h, toks := tk, gens := g, drawn := d, os := o }
theorem quietT_nil {cenv : Addr → Env} {x : Str} {P : Value → Prop} : QuietT prog w A h₀ news cenv x [] P (fun _ => true) := by
  intro C v h tk m₃ E' g d o _ _ _ _
  exact wpAny_pure ⟨rfl, ⟨_, _, rfl, fun _ _ e => e⟩⟩
theorem quietT_one {cenv : Addr → Env} {x : Str} {ct : PySem.Expr} {P : Value → Prop} {p : Value → Bool}
    (h : ∀ C v h tk m₃ E' g d o, P v → Fr h₀ C h m₃ → News h₀ C h news → m₃ x = some v → wpAny (model prog w) A (isTrue ct (cenv C) (eval ct (cenv C))) (fun ok s₄ => ok = p v ∧ Keeps { heap := h, toks := tk, gens := g, drawn := d, os := o } s₄) E' { heap := h, toks := tk, gens := g, drawn := d, os := o }) :
    QuietT prog w A h₀ news cenv x [ct] P p := by
  intro C v h' tk m₃ E' g d o hv F N hm
  simp only [List.forIn_cons, List.forIn_nil, if_true]
  exact wpAny_bind (wpAny_bind (wpAny_mono (h C v h' tk m₃ E' g d o hv F N hm) (fun ok s₄ hk => wpAny_pure (wpAny_pure hk)) fun _ _ z => z))
/-- [elt for x in l if ..]: the walk stands at the source -/
def CompAt (prog : Program) (w : World) (A : Around) (h₀ : Heap) (L : Addr) (env : Env) (scope : Scope) (cl : List (Str × Addr)) (x : Str) (ifs : List PySem.Expr) (elt : PySem.Expr) (Q : Value → Shared → Prop) (xv : Value) (s₁ : Shared) : Prop :=
  ∃ (ax : Addr) (vs : List Value) (m : Str → Option Value) (news : List (Addr × Obj)) (p : Value → Bool) (R : Value → Value → Prop), xv = .ref ax ∧ Fr h₀ L s₁.heap m ∧ News h₀ L s₁.heap news ∧ s₁.heap.IsList ax vs.toArray ∧ vs.length ≤ sizeLine ∧ A.handled = none ∧
    QuietT prog w A h₀ news (fun C => compEnvC scope cl C env) x ifs (· ∈ vs) p ∧ QuietE prog w A h₀ news (fun C => compEnvC scope cl C env) x elt (· ∈ vs) p R ∧
    ∀ D ys n h' tk, Fr h₀ L h' m → News h₀ L h' ((D, listOf (List.toArray ys) n) :: news) → (∀ q ∈ news, q.1 ≠ D) → Paired R (vs.filter p) ys → Q (.ref D) { s₁ with heap := h', toks := tk }
theorem Comp_N {env : Env} {elt iter : PySem.Expr} {x : Str} {px : Pos} {ifs : List PySem.Expr} {scope : Scope} {cl : List (Str × Addr)} {pos : Pos} {Q : Value → Shared → Prop} (F : Fr h₀ L s.heap m)
    (hclos : closureFor scope env = pure cl) (hcell : ∀ y ∈ scope.names, y.2 ≠ .cell) (hkind : scope.kind = .function)
    (hnames : ∀ y ∈ scope.names, y.2 = .local → scope.names.lookup y.1 = some .local) (hx : scope.names.lookup x = some .local)
    (h : wpAny (model prog w) A (eval iter env) (CompAt prog w A h₀ L env scope cl x ifs elt Q) E s)
    (hs : ∀ x, foldedSetIterable iter env x = pure x := by intro _; rfl) :
    wpAny (model prog w) A (eval (.ListComp elt [⟨.Name x px, iter, ifs, 0⟩] scope pos) env) Q E s := by
  rw [eval_ListComp]
  refine wpAny_comprehension_free (use := none) rfl hs hclos hkind hnames (wpAny_mono h (fun xv s₁ h₁ => ?_) fun _ _ e => e)
  obtain ⟨ax, vs, m', news', p, R, rfl, F', N', hl, hsz, hh, ht, he, hQ⟩ := h₁
  have hax : ax < s₁.heap.objs.size := by obtain ⟨_, e, _⟩ := id hl; exact Heap.lt_size e
  have notI : ∀ b, b < s₁.heap.objs.size → b ∉ [s₁.heap.objs.size] := fun b hb hm => by
    rcases List.mem_cons.mp hm with e | hm
    · exact Nat.lt_irrefl _ (e ▸ hb)
    · cases hm
  refine wpAny_pyIter_list hl ?_
  have W := Walks.list (prog := prog) (w := w) hh s₁.heap.objs.size ax (Nat.ne_of_lt hax) vs.toArray
  have there : ∀ {s₃ : Shared}, (∀ b o, b ∉ [s₁.heap.objs.size] → (s₁.heap.push { cls := .type "list_iterator", data := .fields #[.ref ax, .int 0 0] }).get? b = some o → s₃.heap.get? b = some o) → ∀ b o, s₁.heap.get? b = some o → s₃.heap.get? b = some o :=
    fun k b o e => k b o (notI b (Heap.lt_size e)) (Heap.get?_push_of_some _ e)
  have inner : ∀ {C : Addr} {s₃ : Shared} {m₃ : Str → Option Value}, (s₁.heap.push { cls := .type "list_iterator", data := .fields #[.ref ax, .int 0 0] }).objs.size ≤ C → s₃.heap.Ns C m₃ →
      (∀ b o, b ∉ [s₁.heap.objs.size] → (s₁.heap.push { cls := .type "list_iterator", data := .fields #[.ref ax, .int 0 0] }).get? b = some o → s₃.heap.get? b = some o) → Fr h₀ C s₃.heap m₃ ∧ News h₀ C s₃.heap news' := by
    intro C s₃ m₃ hC hn hk
    have hsC : s₁.heap.objs.size ≤ C := Nat.le_trans (by rw [Heap.size_push]; exact Nat.le_succ _) hC
    refine ⟨⟨hn, fun b o e => there hk b o (F'.keep b o e), ?_⟩, fun q hq => ⟨there hk _ _ (N' q hq).1, ?_, (N' q hq).2.2⟩⟩
    · exact Nat.le_trans (Nat.le_trans F'.above (Nat.le_of_lt F'.ns.lt)) hsC
    · exact Nat.ne_of_lt (Nat.lt_of_lt_of_le (Heap.lt_size (N' q hq).1) hsC)
  have memv : ∀ {i : Nat} {v : Value}, vs.toArray[i]? = some v → v ∈ vs := fun h => by
    rw [List.getElem?_toArray] at h
    exact List.mem_of_getElem? h
  refine comp_block_walkC (RR := fun acc C => compPost (model prog w) A E none Q acc C) W (by simpa using hsz) p R hcell hkind hx ?_ ?_ ⟨?_, ?_⟩ ?_
  · exact ⟨⟨_, Heap.get?_push_size _ rfl, rfl, rfl⟩, hl.push _⟩
  · intro b hb
    show b < (s₁.heap.push _).objs.size
    rw [Heap.size_push]
    rcases List.mem_cons.mp hb with rfl | hb
    · exact Nat.lt_succ_self _
    · rcases List.mem_cons.mp hb with rfl | hb
      · exact Nat.lt_succ_of_lt hax
      · cases hb
  · intro C i v s₃ m₃ E' hC hP hn hm hold _
    obtain ⟨F₃, N₃⟩ := inner hC hn hold
    exact ht C v s₃.heap s₃.toks m₃ E' s₃.gens s₃.drawn s₃.os (memv hP) F₃ N₃ hm
  · intro C i v s₃ m₃ E' hC hP hp hn hm hold _
    obtain ⟨F₃, N₃⟩ := inner hC hn hold
    exact he C v s₃.heap s₃.toks m₃ E' s₃.gens s₃.drawn s₃.os (memv hP) hp F₃ N₃ hm
  · intro D C h' tk m'' ys vs' hD hC hDC hn hlD hpl hlen hP hF hk
    have hh₁ : ∀ b o, s₁.heap.get? b = some o → h'.get? b = some o := there (s₃ := { s₁ with heap := h' }) hk
    have hszp : (s₁.heap.push { cls := .type "list_iterator", data := .fields #[.ref ax, .int 0 0] }).objs.size = s₁.heap.objs.size + 1 := Heap.size_push ..
    refine ⟨m'', hn, fun h'' hs'' => ?_⟩
    have keep : ∀ b o, s₁.heap.get? b = some o → h''.get? b = some o := fun b o e => hs''.extBut b o (by
      intro hb
      rw [← hb, show (s₁.heap.push { cls := .type "list_iterator", data := .fields #[.ref ax, .int 0 0] }).get? b = some o from Heap.get?_push_of_some _ e] at hC
      cases hC) (hh₁ b o e)
    obtain ⟨n, hD'⟩ := hpl.extBut hs''.extBut hDC
    have hDn : s₁.heap.get? D = none := by
      cases e : s₁.heap.get? D with
      | none => rfl
      | some o => rw [show (s₁.heap.push { cls := .type "list_iterator", data := .fields #[.ref ax, .int 0 0] }).get? D = some o from Heap.get?_push_of_some _ e] at hD; cases hD
    have hv : vs' = vs := list_of_places (by simpa using hlen) hP
    subst hv
    refine hQ D ys.toList n h'' tk (F'.keeps keep) ?_ (fun q hq e => ?_) hF
    · intro q hq
      rcases List.mem_cons.mp hq with rfl | hq
      · refine ⟨by simpa using hD', ?_, ?_⟩
        · rintro rfl
          obtain ⟨oL, _, _, hL, _⟩ := F'.ns
          rw [hDn] at hL; cases hL
        · cases e : h₀.get? D with
          | none => rfl
          | some o => rw [F'.keep _ _ e] at hDn; cases hDn
      · exact ⟨keep _ _ (N' q hq).1, (N' q hq).2⟩
    · have := (N' q hq).1
      rw [e, hDn] at this; cases this
def AllNe (d : Nat) : List (Addr × Obj) → Prop
  | [] => True
  | p :: r => @Ne Nat p.1 d ∧ AllNe d r
theorem allNe_of {d : Addr} : ∀ {l : List (Addr × Obj)}, (∀ p ∈ l, p.1 ≠ d) → AllNe d l
  | [], _ => trivial
  | p :: _, h => ⟨h p (.head _), allNe_of fun q hq => h q (.tail _ hq)⟩
theorem range1_M {Q : Value → Shared → Prop} {n : Int} {t : Tok} (F : Fr h₀ L s.heap m) (N : News h₀ L s.heap news)
    (h : ∀ r h' tk t₁ u₁ v₁, Fr h₀ L h' m → News h₀ L h' ((r, { cls := .type "range", dict := none, data := .fields #[.int 0 t₁, .int n u₁, .int 1 v₁], slots := #[] }) :: news) → (∀ p ∈ news, p.1 < r) → Q (.ref r) { s with heap := h', toks := tk }) :
    wpAny (model prog w) A (call (.type "range") [.int n t]) Q E s :=
  range1_rows F N (fun h' tk t₁ u₁ v₁ hr F' _ hk => h _ h' tk t₁ u₁ v₁ F' (News_new F N hk (Nat.le_refl _) hr) fun p hp => Heap.lt_size (N p hp).1)
theorem range2_M {Q : Value → Shared → Prop} {a n : Int} {t t' : Tok} (F : Fr h₀ L s.heap m) (N : News h₀ L s.heap news)
    (h : ∀ r h' tk t₁ u₁ v₁, Fr h₀ L h' m → News h₀ L h' ((r, { cls := .type "range", dict := none, data := .fields #[.int a t₁, .int n u₁, .int 1 v₁], slots := #[] }) :: news) → (∀ p ∈ news, p.1 < r) → Q (.ref r) { s with heap := h', toks := tk }) :
    wpAny (model prog w) A (call (.type "range") [.int a t', .int n t]) Q E s :=
  range2_rows F N (fun h' tk t₁ u₁ v₁ hr F' _ hk => h _ h' tk t₁ u₁ v₁ F' (News_new F N hk (Nat.le_refl _) hr) fun p hp => Heap.lt_size (N p hp).1)
end
end Mine
namespace Mine
section
variable {prog : Program} {w : World} {A : Around} {E : Value → Shared → Prop} {s : Shared} {h₀ : Heap} {L : Addr} {m : Str → Option Value} {news : List (Addr × Obj)}
theorem name_comp {env : Env} {scope : Scope} {cl : List (Str × Addr)} {C : Addr} {x : Str} {pos : Pos} {v : Value} {Q : Value → Shared → Prop} (F : Fr h₀ C s.heap m) (hv : m x = some v) (h : Q v s)
    (hk : (compEnvC scope cl C env).scope.kind = .function) (hx : (compEnvC scope cl C env).kindOf x = some .local) (hd : (x == ("__debug__" : Str)) = false := by decide) : wpAny (model prog w) A (eval (.Name x pos) (compEnvC scope cl C env)) Q E s :=
  wpAny_Name (wpAny_loadName_local hk hx F.ns hv h) hd
theorem ints_get {vs : List Value} {ns : List Int} (h : IntsAre vs ns) : ∀ v ∈ vs, ∃ a t, v = .int a t ∧ a ∈ ns := by
  induction h with
  | nil => intro v hv; cases hv
  | cons n t _ ih =>
    intro v hv
    rcases List.mem_cons.mp hv with rfl | hv
    · exact ⟨n, t, rfl, .head _⟩
    · obtain ⟨a, t', e, hm⟩ := ih v hv
      exact ⟨a, t', e, .tail _ hm⟩
theorem paired_filter {p : Int → Bool} {pv : Value → Bool} (hpv : ∀ a t, pv (.int a t) = p a) {vs : List Value} {ns : List Int} (h : IntsAre vs ns) : ∀ {ys : List Value}, Paired (fun v y => y = v) (vs.filter pv) ys → IntsAre ys (ns.filter p) := by
  induction h with
  | nil => intro ys hy; cases hy; exact .nil
  | cons n t _ ih =>
    intro ys hy
    rw [List.filter_cons, hpv] at hy
    rw [List.filter_cons]
    cases hp : p n with
    | false =>
      rw [hp, if_neg Bool.false_ne_true] at hy
      rw [if_neg Bool.false_ne_true]
      exact ih hy
    | true =>
      rw [hp, if_pos rfl] at hy
      rw [if_pos rfl]
      cases hy with
      | cons e r => subst e; exact .cons _ _ (ih r)
def pvOf (p : Int → Bool) : Value → Bool
  | .int a _ => p a
  | _ => false
/-- [x for x in l if ct], l of ints -/
theorem comp_ints (p : Int → Bool) {env : Env} {scope : Scope} {cl : List (Str × Addr)} {x : Str} {ct : PySem.Expr} {pos : Pos} {Q : Value → Shared → Prop} {ax : Addr} {vs : List Value} {na : Nat} {ns : List Int}
    (F : Fr h₀ L s.heap m) (N : News h₀ L s.heap news) (hm : (ax, listOf (List.toArray vs) na) ∈ news) (hi : IntsAre vs ns) (hz : vs.length ≤ 1000) (hh : A.handled = none)
    (hk : scope.kind = .function) (hx : ∀ C, (compEnvC scope cl C env).kindOf x = some .local) (hd : (x == ("__debug__" : Str)) = false)
    (ok : ∀ D ys n h' tk, Fr h₀ L h' m → News h₀ L h' ((D, listOf (List.toArray ys) n) :: news) → (∀ q ∈ news, q.1 ≠ D) → IntsAre ys (ns.filter p) → Q (.ref D) { s with heap := h', toks := tk })
    (test : ∀ C a t h tk m₃ E' g d o, a ∈ ns → Fr h₀ C h m₃ → News h₀ C h news → m₃ x = some (.int a t) → wpAny (model prog w) A (isTrue ct (compEnvC scope cl C env) (eval ct (compEnvC scope cl C env))) (fun ok s₄ => ok = p a ∧ Keeps { heap := h, toks := tk, gens := g, drawn := d, os := o } s₄) E' { heap := h, toks := tk, gens := g, drawn := d, os := o }) :
    CompAt prog w A h₀ L env scope cl x [ct] (.Name x pos) Q (.ref ax) s := by
  refine ⟨ax, vs, m, news, pvOf p, fun v y => y = v, rfl, F, N, ⟨_, (N _ hm).1, rfl, na, rfl⟩, by rw [sizeLine_eq]; omega, hh, quietT_one ?_, ?_, ?_⟩
  · intro C v h tk m₃ E' g d o hv F₃ N₃ hm₃
    obtain ⟨a, t, rfl, ha⟩ := ints_get hi v hv
    exact test C a t h tk m₃ E' g d o ha F₃ N₃ hm₃
  · intro C v h tk m₃ E' g d o hv _ F₃ N₃ hm₃
    exact name_comp (s := { heap := h, toks := tk, gens := g, drawn := d, os := o }) F₃ hm₃ ⟨rfl, ⟨_, _, rfl, fun _ _ e => e⟩⟩ hk (hx C) hd
  · intro D ys n h' tk F' N' hne hP
    exact ok D ys n h' tk F' N' hne (paired_filter (fun _ _ => rfl) hi hP)
end
end Mine
namespace Mine
section
variable {prog : Program} {w : World} {A : Around} {E : Value → Shared → Prop} {s : Shared} {h₀ : Heap} {L : Addr} {m mg mb : Str → Option Value} {news : List (Addr × Obj)} {K : Frag} {p : Program} {loose : List Str}
theorem name_compB {env : Env} {scope : Scope} {cl : List (Str × Addr)} {C : Addr} {x : Str} {pos : Pos} {v : Value} {Q : Value → Shared → Prop} (F : Fr h₀ C s.heap m) (X : K.In h₀) (T : TopRead p loose mg mb h₀) (e : nsIn K mainGlobals x = some none) (hv : bootBuiltins x = some v) (hn : x ≠ "__name__") (h : Q v s)
    (hk : (compEnvC scope cl C env).scope.kind = .function) (hx : (compEnvC scope cl C env).kindOf x = some .globalImplicit) (hg : env.globals = mainGlobals) (hb : env.builtins = builtinsNs) (hd : (x == ("__debug__" : Str)) = false := by decide) : wpAny (model prog w) A (eval (.Name x pos) (compEnvC scope cl C env)) Q E s :=
  Name_function_global hk hx (loadGlobal_builtin (env := compEnvC scope cl C env) (by show s.heap.Ns env.globals mg; rw [hg]; exact T.g.keeps F.keep) (mg_none_of X T.g e) (by show s.heap.Ns env.builtins mb; rw [hb]; exact T.b.keeps F.keep) ((T.builtins x hn).trans hv) h) hd
theorem paired_map {f : Int → Int} {vs : List Value} {ns : List Int} (h : IntsAre vs ns) : ∀ {ys : List Value}, Paired (fun v y => ∃ a t u, v = Value.int a t ∧ y = Value.int (f a) u) (vs.filter fun _ => true) ys → IntsAre ys (ns.map f) := by
  induction h with
  | nil => intro ys hy; cases hy; exact .nil
  | cons n t _ ih =>
    intro ys hy
    rw [List.filter_cons, if_pos rfl] at hy
    cases hy with
    | cons e r =>
      obtain ⟨a, t', u, e1, e2⟩ := e
      cases e1; subst e2
      exact .cons _ _ (ih r)
/-- [elt for x in l], l of ints, elt an int -/
theorem comp_map (f : Int → Int) {env : Env} {scope : Scope} {cl : List (Str × Addr)} {x : Str} {elt : PySem.Expr} {Q : Value → Shared → Prop} {ax : Addr} {vs : List Value} {na : Nat} {ns : List Int}
    (F : Fr h₀ L s.heap m) (N : News h₀ L s.heap news) (hm : (ax, listOf (List.toArray vs) na) ∈ news) (hi : IntsAre vs ns) (hz : vs.length ≤ 1000) (hh : A.handled = none)
    (ok : ∀ D ys n h' tk, Fr h₀ L h' m → News h₀ L h' ((D, listOf (List.toArray ys) n) :: news) → (∀ q ∈ news, q.1 ≠ D) → IntsAre ys (ns.map f) → Q (.ref D) { s with heap := h', toks := tk })
    (el : ∀ C a t h tk m₃ E' g d o, a ∈ ns → Fr h₀ C h m₃ → News h₀ C h news → m₃ x = some (.int a t) → wpAny (model prog w) A (eval elt (compEnvC scope cl C env)) (fun y s₄ => (∃ u, y = .int (f a) u) ∧ Keeps { heap := h, toks := tk, gens := g, drawn := d, os := o } s₄) E' { heap := h, toks := tk, gens := g, drawn := d, os := o }) :
    CompAt prog w A h₀ L env scope cl x [] elt Q (.ref ax) s := by
  refine ⟨ax, vs, m, news, fun _ => true, fun v y => ∃ a t u, v = Value.int a t ∧ y = Value.int (f a) u, rfl, F, N, ⟨_, (N _ hm).1, rfl, na, rfl⟩, by rw [sizeLine_eq]; omega, hh, quietT_nil, ?_, ?_⟩
  · intro C v h tk m₃ E' g d o hv _ F₃ N₃ hm₃
    obtain ⟨a, t, rfl, ha⟩ := ints_get hi v hv
    exact wpAny_mono (el C a t h tk m₃ E' g d o ha F₃ N₃ hm₃) (fun y s₄ z => ⟨by obtain ⟨⟨u, e⟩, _⟩ := z; exact ⟨a, t, u, rfl, e⟩, z.2⟩) fun _ _ z => z
  · intro D ys n h' tk F' N' hne hP
    exact ok D ys n h' tk F' N' hne (paired_map hi hP)
end
end Mine
namespace Mine
abbrev LC2 (elt : PySem.Expr) (x : Str) (px : Pos) (iter ct : PySem.Expr) (y : Str) (py : Pos) (iter2 : PySem.Expr) (scope : Scope) (pos : Pos) : PySem.Expr :=
  .ListComp elt [⟨.Name x px, iter, [ct], 0⟩, ⟨.Name y py, iter2, [], 0⟩] scope pos
section
variable {elt : PySem.Expr} {x : Str} {px : Pos} {iter ct : PySem.Expr} {y : Str} {py : Pos} {iter2 : PySem.Expr} {scope : Scope} {pos : Pos}
theorem turn2_in (it acc : Value) (env : Env) : compTurn (LC2 elt x px iter ct y py iter2 scope pos) 1 it acc env = (do
      standAt iter2.pos
      match ← pyNext it with
      | none => pure (.done .next)
      | some v =>
        letOwnedTupleGo (.Name y py) it v
        assign (.Name y py) env v
        let mut ok := true
        for c in ([] : List PySem.Expr) do
          if ok then ok ← isTrue c env (eval c env)
        if ok then
          (do let _ ← call (.builtin "list.append") [acc, ← eval elt env])
        again (.compLoop (LC2 elt x px iter ct y py iter2 scope pos) 1 it acc env)) := by rfl
theorem turn2_out (it acc : Value) (env : Env) : compTurn (LC2 elt x px iter ct y py iter2 scope pos) 0 it acc env = (do
      standAt iter.pos
      match ← pyNext it with
      | none => pure (.done .next)
      | some v =>
        letOwnedTupleGo (.Name x px) it v
        assign (.Name x px) env v
        let mut ok := true
        for c in [ct] do
          if ok then ok ← isTrue c env (eval c env)
        if ok then
          let z ← eval iter2 env
          standAt iter2.pos
          let z ← foldedSetIterable iter2 env z
          let _ ← runOwn (.compStart (LC2 elt x px iter ct y py iter2 scope pos) 1 (← holding [z] (pyIter z)) acc env) env
          again (.compLoop (LC2 elt x px iter ct y py iter2 scope pos) 0 it acc env)
        else again (.compLoop (LC2 elt x px iter ct y py iter2 scope pos) 0 it acc env)) := by rfl
section
variable {prog : Program} {w : World} {A : Around} {E : Value → Shared → Prop} {R : Result → Shared → Prop} {s : Shared}
theorem loop2_in {it acc : Value} {env : Env} (I : Nat → Shared → Prop)
    (turn : ∀ n s, I n s → wpAny (model prog w) A (pyNext it) (fun r s₁ => match r with
      | none => R (.ok .next) s₁
      | some v => wpAny (model prog w) A (assign (.Name y py) env v) (fun _ s₂ => wpAny (model prog w) A (eval elt env) (fun x s₃ =>
          wpAny (model prog w) A (call (.builtin "list.append") [acc, x]) (fun _ s₄ => ∃ m, m < n ∧ I m s₄) (notedBy (model prog w) A env fun e s' => R (.error e) s') s₃)
          (notedBy (model prog w) A env fun e s' => R (.error e) s') s₂) (notedBy (model prog w) A env fun e s' => R (.error e) s') s₁) (notedBy (model prog w) A env fun e s' => R (.error e) s') s)
    (n : Nat) (h : I n s) : codeAny (model prog w) A (.compLoop (LC2 elt x px iter ct y py iter2 scope pos) 1 it acc env) R s := by
  refine codeAny_loop rfl I (fun n s hI => ?_) n h
  show wpAny _ A ((compTurn (LC2 elt x px iter ct y py iter2 scope pos) 1 it acc env).onRaise (fun x => do noteFrame x env; theTreesLotGoes x)) _ _ s
  refine wpAny_noted ?_
  rw [turn2_in]
  refine wpAny_bind (wpAny_standAt (wpAny_bind (wpAny_mono (turn n s hI) (fun r s₁ h₁ => ?_) fun _ _ h' => h')))
  cases r with
  | none => exact wpAny_pure h₁
  | some v =>
    refine wpAny_bind (wpAny_of_eq (a := ()) rfl ?_)
    refine wpAny_bind (wpAny_mono h₁ (fun _ s₂ h₂ => wpAny_bind ?_) fun _ _ h' => h')
    refine wpAny_mono (wpAny_tests_nil (Q := fun ok s' => ok = true ∧ s' = s₂) ⟨rfl, rfl⟩) (fun ok s' hk => ?_) fun _ _ h' => h'
    obtain ⟨rfl, rfl⟩ := hk
    exact wpAny_bind (wpAny_bind (wpAny_mono h₂ (fun x s₄ h₄ => wpAny_bind (wpAny_mono h₄ (fun _ s₅ h₅ => wpAny_pure (wpAny_pure ⟨rfl, h₅⟩)) fun _ _ h' => h')) fun _ _ h' => h'))
theorem start2_in {it acc : Value} {env : Env} (h0 : codeAny (model prog w) A (.compLoop (LC2 elt x px iter ct y py iter2 scope pos) 1 it acc env) R s)
    (h : wpAny (model prog w) A (pyIter it) (fun it' s' => codeAny (model prog w) A (.compLoop (LC2 elt x px iter ct y py iter2 scope pos) 1 it' acc env) R s') (notedBy (model prog w) A env fun x s' => R (.error x) s') s) :
    codeAny (model prog w) A (.compStart (LC2 elt x px iter ct y py iter2 scope pos) 1 it acc env) R s := by
  refine codeAny_of_tree ?_
  show wpAny _ _ ((compStart (LC2 elt x px iter ct y py iter2 scope pos) 1 it acc env).onRaise (fun x => do noteFrame x env; standAt theWindowsPlace)) _ _ s
  refine wpAny_notedAt ?_
  unfold compStart
  show wpAny _ _ (ask >>= _) _ _ s
  refine wpAny_bind (wpAny_askSetting (wpAny_ite ?_))
  split
  · first
      | exact wpAny_bind (wpAny_pure (wpAny_pure (And.intro rfl h0)))
      | exact wpAny_pure (And.intro rfl h0)
  · first
      | exact wpAny_bind (wpAny_rule (wpAny_bind (wpAny_standAt (wpAny_bind (wpAny_mono h (fun it' s' h' => wpAny_pure (And.intro rfl h')) fun _ _ x => x)))))
      | (refine wpAny_bind (wpAny_rule ?_); show wpAny _ _ (standAt iter2.pos >>= _) _ _ s; exact wpAny_bind (wpAny_standAt (wpAny_bind (wpAny_mono h (fun it' s' h' => wpAny_pure (And.intro rfl h')) fun _ _ x => x))))
theorem loop2_out {it acc : Value} {env : Env} (I : Nat → Shared → Prop)
    (turn : ∀ n s, I n s → wpAny (model prog w) A (pyNext it) (fun r s₁ => match r with
      | none => R (.ok .next) s₁
      | some v => wpAny (model prog w) A (assign (.Name x px) env v) (fun _ s₂ => wpAny (model prog w) A (isTrue ct env (eval ct env)) (fun ok s₃ =>
          if ok = true then wpAny (model prog w) A (eval iter2 env) (fun z s₄ => wpAny (model prog w) A (pyIter z) (fun it2 s₅ =>
            codeAny (model prog w) (A.mark none) (.compStart (LC2 elt x px iter ct y py iter2 scope pos) 1 it2 acc env) (fun r s₆ => r = .ok .next ∧ ∃ m, m < n ∧ I m s₆) s₅) (notedBy (model prog w) A env fun e s' => R (.error e) s') s₄) (notedBy (model prog w) A env fun e s' => R (.error e) s') s₃
          else ∃ m, m < n ∧ I m s₃) (notedBy (model prog w) A env fun e s' => R (.error e) s') s₂) (notedBy (model prog w) A env fun e s' => R (.error e) s') s₁) (notedBy (model prog w) A env fun e s' => R (.error e) s') s)
    (n : Nat) (h : I n s) (hs : ∀ z, foldedSetIterable iter2 env z = pure z) : codeAny (model prog w) A (.compLoop (LC2 elt x px iter ct y py iter2 scope pos) 0 it acc env) R s := by
  refine codeAny_loop rfl I (fun n s hI => ?_) n h
  show wpAny _ A ((compTurn (LC2 elt x px iter ct y py iter2 scope pos) 0 it acc env).onRaise (fun x => do noteFrame x env; theTreesLotGoes x)) _ _ s
  refine wpAny_noted ?_
  rw [turn2_out]
  refine wpAny_bind (wpAny_standAt (wpAny_bind (wpAny_mono (turn n s hI) (fun r s₁ h₁ => ?_) fun _ _ h' => h')))
  cases r with
  | none => exact wpAny_pure h₁
  | some v =>
    refine wpAny_bind (wpAny_of_eq (a := ()) rfl ?_)
    refine wpAny_bind (wpAny_mono h₁ (fun _ s₂ h₂ => wpAny_bind (wpAny_tests_one (wpAny_mono h₂ (fun ok s₃ h₃ => ?_) fun _ _ h' => h'))) fun _ _ h' => h')
    cases ok with
    | false => exact wpAny_pure ⟨rfl, h₃⟩
    | true =>
      refine wpAny_bind (wpAny_mono h₃ (fun z s₄ h₄ => wpAny_bind (wpAny_standAt (wpAny_bind (wpAny_of_eq (hs z) (wpAny_bind (wpAny_holding (wpAny_mono h₄ (fun it2 s₅ h₅ => ?_) fun _ _ h' => h'))))))) fun _ _ h' => h')
      refine wpAny_bind (wpAny_runOwn (codeAny_mono h₅ fun r s₆ h₆ => ?_))
      obtain ⟨rfl, h₆⟩ := h₆
      exact wpAny_pure ⟨rfl, h₆⟩
end
end
end Mine
namespace Mine
theorem ints_at {vs : List Value} {ns : List Int} (h : IntsAre vs ns) : ∀ (i : Nat) (v : Value), vs[i]? = some v → ∃ a t, v = .int a t ∧ ns[i]? = some a := by
  induction h with
  | nil => intro i v hv; simp at hv
  | cons n t _ ih =>
    intro i v hv
    cases i with
    | zero => simp at hv; subst hv; exact ⟨n, t, rfl, rfl⟩
    | succ i => simpa using ih i v (by simpa using hv)
theorem ints_snoc' {ts : List Value} {told : List Int} {a : Int} {t : Tok} (h : IntsAre ts told) : IntsAre (ts ++ [.int a t]) (told ++ [a]) := by
  induction h with
  | nil => exact .cons _ _ .nil
  | cons _ _ _ ih => exact .cons _ _ ih
section
variable {elt : PySem.Expr} {x : Str} {px : Pos} {iter ct : PySem.Expr} {y : Str} {py : Pos} {iter2 : PySem.Expr} {scope : Scope} {pos : Pos}
variable {prog : Program} {w : World} {A : Around} {E : Value → Shared → Prop} {s : Shared}
/-- the inner loop over a tuple of ints -/
theorem in2_walk {f : Int → Int} {bs : List Int} {its : Array Value} {tx D : Addr} {cenv : Env} {m : Str → Option Value} {ys : Array Value} {zs : List Int} (hh : A.handled = none) (ht : s.heap.IsTuple tx its) (hb : IntsAre its.toList bs)
    (hy : cenv.kindOf y = some .local) (hp : (cenv.scope.kind == .class || (cenv.scope.kind == .module && cenv.locals != cenv.globals)) = false) (hDC : D ≠ cenv.locals)
    (hn : s.heap.Ns cenv.locals m) (hD : s.heap.PlainList D ys) (hys : IntsAre ys.toList zs) (hz : ys.size + bs.length ≤ sizeLine)
    (helt : ∀ b t s₂ m₂ E', b ∈ bs → s₂.heap.Ns cenv.locals m₂ → m₂ y = some (.int b t) → (∀ z, z ≠ y → m₂ z = m z) → (∀ b o, b ≠ cenv.locals → b ≠ D → s.heap.get? b = some o → s₂.heap.get? b = some o) →
      wpAny (model prog w) A (eval elt cenv) (fun r s₃ => (∃ u, r = .int (f b) u) ∧ Keeps s₂ s₃) E' s₂) :
    wpAny (model prog w) A (pyIter (.ref tx)) (fun it s₁ => codeAny (model prog w) A (.compStart (LC2 elt x px iter ct y py iter2 scope pos) 1 it (.ref D) cenv) (fun r s' => r = .ok .next ∧ ∃ h' tk m' ys', s' = { s with heap := h', toks := tk } ∧ h'.Ns cenv.locals m' ∧ h'.PlainList D ys' ∧ IntsAre ys'.toList (zs ++ bs.map f) ∧
      (∀ b o, b ≠ cenv.locals → b ≠ D → s.heap.get? b = some o → h'.get? b = some o)) s₁) E s := by
  have hax : tx < s.heap.objs.size := by obtain ⟨_, e, _⟩ := id ht; exact Heap.lt_size e
  have hCI : cenv.locals ≠ s.heap.objs.size := Nat.ne_of_lt hn.lt
  have hDI : D ≠ s.heap.objs.size := by obtain ⟨_, e⟩ := id hD; exact Nat.ne_of_lt (Heap.lt_size e)
  have htC : tx ≠ cenv.locals := by
    rintro e
    obtain ⟨o, ho, _, n, hd⟩ := id ht
    obtain ⟨oL, _, _, hL, hdL, _⟩ := id hn
    rw [e, hL] at ho; cases ho
    rw [hdL] at hd; cases hd
  have htD : tx ≠ D := by
    rintro e
    obtain ⟨o, ho, hc, _⟩ := id ht
    obtain ⟨n, hL⟩ := id hD
    rw [e, hL] at ho; cases ho
    simp at hc
  refine wpAny_pyIter_tuple ht ?_
  have hit₀ : (s.heap.push { cls := .type "tuple_iterator", data := .fields #[.ref tx, .int 0 0] }).IsTupleIter s.heap.objs.size tx 0 := ⟨_, Heap.get?_push_size _ rfl, rfl, rfl⟩
  have loop : codeAny (model prog w) A (.compLoop (LC2 elt x px iter ct y py iter2 scope pos) 1 (.ref s.heap.objs.size) (.ref D) cenv) (fun r s' => r = .ok .next ∧ ∃ h' tk m' ys', s' = { s with heap := h', toks := tk } ∧ h'.Ns cenv.locals m' ∧ h'.PlainList D ys' ∧ IntsAre ys'.toList (zs ++ bs.map f) ∧
      (∀ b o, b ≠ cenv.locals → b ≠ D → s.heap.get? b = some o → h'.get? b = some o)) { s with heap := s.heap.push { cls := .type "tuple_iterator", data := .fields #[.ref tx, .int 0 0] } } := by
    refine loop2_in (fun k s' => ∃ h' tk m' ys' i, s' = { s with heap := h', toks := tk } ∧ h'.IsTupleIter s.heap.objs.size tx i ∧ h'.Ns cenv.locals m' ∧ (∀ z, z ≠ y → m' z = m z) ∧ h'.PlainList D ys' ∧ IntsAre ys'.toList (zs ++ (bs.take i).map f) ∧ i ≤ bs.length ∧ k = bs.length + 1 - i ∧
      (∀ b o, b ≠ cenv.locals → b ≠ D → s.heap.get? b = some o → h'.get? b = some o)) ?_ (bs.length + 1) ⟨_, s.toks, m, ys, 0, rfl, hit₀, hn.push _, fun _ _ => rfl, ?_, by simpa using hys, Nat.zero_le _, rfl, fun b o _ _ e => Heap.get?_push_of_some _ e⟩
    · rintro k s' ⟨h', tk, m', ys', i, rfl, hit, hn', hm', hD', hys', hi, rfl, hk⟩
      have ht' : h'.IsTuple tx its := by
        obtain ⟨o, e, r⟩ := id ht
        exact ⟨o, hk _ _ htC htD e, r⟩
      have hlen := IntsAre.length hb
      by_cases hlt : i < bs.length
      · have hlt' : i < its.toList.length := by rw [hlen]; exact hlt
        have hx0 : its.toList[i]? = some its.toList[i] := List.getElem?_eq_getElem hlt'
        have hx : its[i]? = some its.toList[i] := by rw [← hx0]; simp
        obtain ⟨b, t, eb, hbi⟩ := ints_at hb i _ hx0
        rw [eb] at hx
        refine wpAny_pyNext_tuple_item hit ht' hx fun h₁ hit₁ hs₁ => ?_
        refine wpAny_assign_Name (wpAny_storeName_local hy (hn'.at' fun o e => hs₁.extBut _ o hCI e) (fun h₂ hn₂ hs₂ => ?_) hp)
        have keep₂ : ∀ b o, b ≠ cenv.locals → b ≠ D → s.heap.get? b = some o → h₂.get? b = some o := fun b o h1 h2 e =>
          hs₂.extBut _ o h1 (hs₁.extBut _ o (Nat.ne_of_lt (Heap.lt_size e)) (hk b o h1 h2 e))
        refine wpAny_mono (helt b t _ _ _ (List.mem_of_getElem? hbi) hn₂ (by simp) (fun z hz => by simp only [if_neg hz]; exact hm' z hz) keep₂) (fun r s₃ hr => ?_) fun _ _ e => e
        obtain ⟨⟨u, rfl⟩, h₃, tk₃, rfl, hk₃⟩ := hr
        have hD₂ : h₂.PlainList D ys' := hD'.at fun o e => hs₂.extBut _ o hDC (hs₁.extBut _ o hDI e)
        have hys2 : ys'.size ≤ sizeLine := by
          have e1 := IntsAre.length hys'
          rw [List.length_append, List.length_map, List.length_take] at e1
          have e2 := IntsAre.length hys
          have e3 : ys.toList.length = ys.size := by simp
          have e4 : ys'.toList.length = ys'.size := by simp
          omega
        refine wpAny_list_append_plain (hsz := hys2) (hD₂.at fun o e => hk₃ _ o e) fun h₄ hD₄ hs₄ => ?_
        refine ⟨bs.length + 1 - (i + 1), by omega, h₄, tk₃, _, ys'.push (.int (f b) u), i + 1, rfl, ?_, (hn₂.keeps hk₃).sameBut hs₄ (Ne.symm hDC), fun z hz => by simp only [if_neg hz]; exact hm' z hz, hD₄, ?_, hlt, rfl, fun b o h1 h2 e => hs₄.extBut b o h2 (hk₃ _ _ (keep₂ b o h1 h2 e))⟩
        · exact ((hit₁.at fun o e => hs₂.extBut _ o (Ne.symm hCI) e).at fun o e => hk₃ _ o e).at fun o e => hs₄.extBut _ o (Ne.symm hDI) e
        · rw [List.take_add_one, hbi, Option.toList_some, List.map_append, ← List.append_assoc, Array.toList_push]
          exact ints_snoc' hys'
      · have hin : i = bs.length := by omega
        subst hin
        refine wpAny_pyNext_tuple_end hh hit ht' (by simp at hlen ⊢; omega) fun h₁ he₁ => ?_
        refine ⟨rfl, h₁, tk, m', ys', rfl, hn'.at' fun o e => he₁ _ o hCI e, hD'.at fun o e => he₁ _ o hDI e, by simpa using hys', fun b o h1 h2 e => he₁ _ o (Nat.ne_of_lt (Heap.lt_size e)) (hk b o h1 h2 e)⟩
    · exact hD.at fun o e => Heap.get?_push_of_some _ e
  exact start2_in loop (wpAny_pyIter_tupleiter hit₀ loop)
end
end Mine
namespace Mine
section
variable {prog : Program} {w : World} {A : Around} {E : Value → Shared → Prop} {s : Shared} {h₀ : Heap} {L : Addr} {m : Str → Option Value} {news : List (Addr × Obj)}
structure Comp2H (prog : Program) (w : World) (A : Around) (h₀ : Heap) (L : Addr) (env : Env) (scope : Scope) (cl : List (Str × Addr)) (x : Str) (ct : PySem.Expr) (y : Str) (iter2 elt : PySem.Expr) (Q : Value → Shared → Prop) (s₁ : Shared)
    (p : Int → Bool) (f : Int → Int → Int) (bs : List Int) (ax : Addr) (vs : List Value) (ns : List Int) (m : Str → Option Value) (news : List (Addr × Obj)) : Prop where
  F : Fr h₀ L s₁.heap m
  N : News h₀ L s₁.heap news
  l : s₁.heap.IsList ax vs.toArray
  i : IntsAre vs ns
  z : vs.length ≤ 1000
  b : bs.length ≤ 5
  h : A.handled = none
  test : ∀ C a t h tk m₃ E' g d o, a ∈ ns → Fr h₀ C h m₃ → News h₀ C h news → m₃ x = some (.int a t) → wpAny (model prog w) A (isTrue ct (compEnvC scope cl C env) (eval ct (compEnvC scope cl C env))) (fun ok s₄ => ok = p a ∧ Keeps { heap := h, toks := tk, gens := g, drawn := d, os := o } s₄) E' { heap := h, toks := tk, gens := g, drawn := d, os := o }
  tup : ∀ C h tk m₃ E' g d o, Fr h₀ C h m₃ → News h₀ C h news → wpAny (model prog w) A (eval iter2 (compEnvC scope cl C env)) (fun z s₄ => (∃ tx its, z = .ref tx ∧ s₄.heap.IsTuple tx its ∧ IntsAre its.toList bs) ∧ Keeps { heap := h, toks := tk, gens := g, drawn := d, os := o } s₄) E' { heap := h, toks := tk, gens := g, drawn := d, os := o }
  elt : ∀ C a t b u h tk m₃ E' g d o, a ∈ ns → p a = true → b ∈ bs → Fr h₀ C h m₃ → News h₀ C h news → m₃ x = some (.int a t) → m₃ y = some (.int b u) → wpAny (model prog w) A (eval elt (compEnvC scope cl C env)) (fun r s₄ => (∃ u, r = .int (f a b) u) ∧ Keeps { heap := h, toks := tk, gens := g, drawn := d, os := o } s₄) E' { heap := h, toks := tk, gens := g, drawn := d, os := o }
  cont : ∀ D ys n h' tk, Fr h₀ L h' m → News h₀ L h' ((D, listOf (List.toArray ys) n) :: news) → (∀ q ∈ news, q.1 ≠ D) → IntsAre ys ((ns.filter p).flatMap fun a => bs.map (f a)) → Q (.ref D) { s₁ with heap := h', toks := tk }
def Comp2At (prog : Program) (w : World) (A : Around) (h₀ : Heap) (L : Addr) (env : Env) (scope : Scope) (cl : List (Str × Addr)) (x : Str) (ct : PySem.Expr) (y : Str) (iter2 elt : PySem.Expr) (Q : Value → Shared → Prop) (xv : Value) (s₁ : Shared) : Prop :=
  ∃ p f bs ax vs ns m news, xv = .ref ax ∧ Comp2H prog w A h₀ L env scope cl x ct y iter2 elt Q s₁ p f bs ax vs ns m news
theorem flat_len (p : Int → Bool) (f : Int → Int → Int) (bs : List Int) (hb : bs.length ≤ 5) : ∀ ns : List Int, ((ns.filter p).flatMap fun a => bs.map (f a)).length ≤ 5 * ns.length
  | [] => by simp
  | a :: r => by
    have ih := flat_len p f bs hb r
    rw [List.filter_cons]
    cases p a with
    | false => rw [if_neg Bool.false_ne_true, List.length_cons]; omega
    | true => rw [if_pos rfl, List.flatMap_cons, List.length_append, List.length_map, List.length_cons]; omega
theorem Comp2_N {env : Env} {elt iter iter2 ct : PySem.Expr} {x y : Str} {px py : Pos} {scope : Scope} {cl : List (Str × Addr)} {pos : Pos} {Q : Value → Shared → Prop} (_F : Fr h₀ L s.heap m)
    (hclos : closureFor scope env = pure cl) (hcell : ∀ y ∈ scope.names, y.2 ≠ .cell) (hkind : scope.kind = .function)
    (hnames : ∀ y ∈ scope.names, y.2 = .local → scope.names.lookup y.1 = some .local) (hx : scope.names.lookup x = some .local) (hy : scope.names.lookup y = some .local) (hxy : x ≠ y)
    (h : wpAny (model prog w) A (eval iter env) (Comp2At prog w A h₀ L env scope cl x ct y iter2 elt Q) E s)
    (hs : ∀ x, foldedSetIterable iter env x = pure x := by intro _; rfl) (hs2 : ∀ env x, foldedSetIterable iter2 env x = pure x := by intro _ _; rfl) :
    wpAny (model prog w) A (eval (LC2 elt x px iter ct y py iter2 scope pos) env) Q E s := by
  rw [eval_ListComp]
  refine wpAny_comprehension_free (use := none) rfl hs hclos hkind hnames (wpAny_mono h (fun xv s₁ h₁ => ?_) fun _ _ e => e)
  obtain ⟨p, f, bs, ax, vs, ns, m', news', rfl, H⟩ := h₁
  have hl := H.l
  have hax : ax < s₁.heap.objs.size := by obtain ⟨_, e, _⟩ := id hl; exact Heap.lt_size e
  refine wpAny_pyIter_list hl ?_
  refine wpAny_newObj_type (wpAny_newFunctionEnv hcell (by intro y hy; simp at hy) (fun h₁ hns₁ hsb₁ => ?_) hkind)
  dsimp only at hns₁ hsb₁ ⊢
  generalize hH1 : s₁.heap.push { cls := .type "list_iterator", data := .fields #[.ref ax, .int 0 0] } = H1 at hns₁ hsb₁ ⊢
  have hI1 : H1.objs.size = s₁.heap.objs.size + 1 := by rw [← hH1, Heap.size_push]
  generalize hH2 : H1.push { cls := .type "list", dict := none, data := .seq ([] : List Value).toArray } = H2 at hns₁ hsb₁ ⊢
  have hC : H2.objs.size = H1.objs.size + 1 := by rw [← hH2, Heap.size_push]
  have hDC : H1.objs.size ≠ H2.objs.size := by rw [hC]; exact Nat.ne_of_lt (Nat.lt_succ_self _)
  have up1 : ∀ b o, s₁.heap.get? b = some o → H2.get? b = some o := fun b o e => hH2 ▸ Heap.get?_push_of_some _ (hH1 ▸ Heap.get?_push_of_some _ e)
  have lt1 : ∀ {b : Addr} {o : Obj}, s₁.heap.get? b = some o → b ≠ H2.objs.size ∧ b ≠ H1.objs.size ∧ b ≠ s₁.heap.objs.size := by
    intro b o e
    have h1 : @LT.lt Nat _ b s₁.heap.objs.size := Heap.lt_size e
    refine ⟨fun q => ?_, fun q => ?_, fun q => ?_⟩
    · have q' : @Eq Nat b H2.objs.size := q
      omega
    · have q' : @Eq Nat b H1.objs.size := q
      omega
    · have q' : @Eq Nat b s₁.heap.objs.size := q
      omega
  have hCI : H2.objs.size ≠ s₁.heap.objs.size := by omega
  have hDI : H1.objs.size ≠ s₁.heap.objs.size := by omega
  have hit₀ : H1.IsListIter s₁.heap.objs.size ax 0 := hH1 ▸ ⟨_, Heap.get?_push_size _ rfl, rfl, rfl⟩
  have hit₁ : h₁.IsListIter s₁.heap.objs.size ax 0 := hit₀.at fun o e => hsb₁.extBut _ _ (Ne.symm hCI) (Heap.get?_push_of_some _ (hH2 ▸ Heap.get?_push_of_some _ e))
  have hacc : h₁.PlainList H1.objs.size #[] := ⟨_, hsb₁.extBut _ _ hDC (Heap.get?_push_of_some _ (hH2 ▸ Heap.get?_push_size _ rfl))⟩
  have keep₁ : ∀ b o, s₁.heap.get? b = some o → h₁.get? b = some o := fun b o e => hsb₁.extBut b o (lt1 e).1 (Heap.get?_push_of_some _ (up1 b o e))
  have inner : ∀ {h' : Heap} {m₃ : Str → Option Value}, h'.Ns H2.objs.size m₃ → (∀ b o, s₁.heap.get? b = some o → h'.get? b = some o) → Fr h₀ H2.objs.size h' m₃ ∧ News h₀ H2.objs.size h' news' := by
    intro h' m₃ hn hk
    refine ⟨⟨hn, fun b o e => hk b o (H.F.keep b o e), ?_⟩, fun q hq => ⟨hk _ _ (H.N q hq).1, (lt1 (H.N q hq).1).1, (H.N q hq).2.2⟩⟩
    have h1 : @LE.le Nat _ h₀.objs.size L := H.F.above
    have h2 : @LT.lt Nat _ L s₁.heap.objs.size := H.F.ns.lt
    exact (by omega : @LE.le Nat _ h₀.objs.size H2.objs.size)
  have hkx : (compEnvC scope cl H2.objs.size env).kindOf x = some .local := lookup_relabel_local hx
  have hky : (compEnvC scope cl H2.objs.size env).kindOf y = some .local := lookup_relabel_local hy
  have hpc : ((compEnvC scope cl H2.objs.size env).scope.kind == .class || ((compEnvC scope cl H2.objs.size env).scope.kind == .module && (compEnvC scope cl H2.objs.size env).locals != (compEnvC scope cl H2.objs.size env).globals)) = false := by simp [compEnvC, relabel, hkind]
  have loop : ∀ tk₀, codeAny (model prog w) A (.compLoop (LC2 elt x px iter ct y py iter2 scope pos) 0 (.ref s₁.heap.objs.size) (.ref H1.objs.size) (compEnvC scope cl H2.objs.size env)) (compPost (model prog w) A E none Q (.ref H1.objs.size) H2.objs.size)
      { s₁ with heap := h₁, toks := tk₀ } := by
    intro tk₀
    refine loop2_out (fun k s' => ∃ h' tk m₂ ys i, s' = { s₁ with heap := h', toks := tk } ∧ h'.IsListIter s₁.heap.objs.size ax i ∧ h'.Ns H2.objs.size m₂ ∧ h'.PlainList H1.objs.size ys ∧ IntsAre ys.toList (((ns.take i).filter p).flatMap fun a => bs.map (f a)) ∧ i ≤ ns.length ∧ k = ns.length + 1 - i ∧
      (∀ b o, s₁.heap.get? b = some o → h'.get? b = some o)) ?_ (ns.length + 1) ⟨h₁, tk₀, _, #[], 0, rfl, hit₁, hns₁, hacc, by simpa using IntsAre.nil, Nat.zero_le _, rfl, keep₁⟩ (hs2 _)
    rintro k s' ⟨h', tk, m₂, ys, i, rfl, hit, hn, hD, hys, hi, rfl, hk⟩
    have hl' : h'.IsList ax vs.toArray := by obtain ⟨o, e, r⟩ := id hl; exact ⟨o, hk _ _ e, r⟩
    have hlen := IntsAre.length H.i
    by_cases hlt : i < ns.length
    · have hlt' : i < vs.length := by rw [hlen]; exact hlt
      have hx0 : vs[i]? = some vs[i] := List.getElem?_eq_getElem hlt'
      obtain ⟨a, t, ea, hai⟩ := ints_at H.i i _ hx0
      have hxa : vs.toArray[i]? = some (.int a t) := by rw [← ea, ← hx0]; simp
      have ham : a ∈ ns := List.mem_of_getElem? hai
      refine wpAny_pyNext_list_item hit hl' hxa fun h₂ hit₂ hs₂ => ?_
      refine wpAny_assign_Name (wpAny_storeName_local hkx (hn.at' fun o e => hs₂.extBut _ o hCI e) (fun h₃ hn₃ hs₃ => ?_) hpc)
      have keep₃ : ∀ b o, s₁.heap.get? b = some o → h₃.get? b = some o := fun b o e => hs₃.extBut _ o (lt1 e).1 (hs₂.extBut _ o (lt1 e).2.2 (hk b o e))
      obtain ⟨F₃, N₃⟩ := inner hn₃ keep₃
      refine wpAny_mono (H.test _ a t h₃ _ _ _ _ _ _ ham F₃ N₃ (by simp)) (fun ok s₄ h₄ => ?_) fun _ _ e => e
      obtain ⟨rfl, h₄, tk₄, rfl, hk₄⟩ := h₄
      have hn₄ := hn₃.keeps hk₄
      have keep₄ : ∀ b o, s₁.heap.get? b = some o → h₄.get? b = some o := fun b o e => hk₄ _ _ (keep₃ b o e)
      have hit₄ : h₄.IsListIter s₁.heap.objs.size ax (i + 1) := (hit₂.at fun o e => hs₃.extBut _ o (Ne.symm hCI) e).at fun o e => hk₄ _ o e
      have hD₄ : h₄.PlainList H1.objs.size ys := ((hD.at fun o e => hs₂.extBut _ o hDI e).at fun o e => hs₃.extBut _ o hDC e).at fun o e => hk₄ _ o e
      have step : ((ns.take (i + 1)).filter p).flatMap (fun a => bs.map (f a)) = ((ns.take i).filter p).flatMap (fun a => bs.map (f a)) ++ (if p a then bs.map (f a) else []) := by
        rw [List.take_add_one, hai, Option.toList_some, List.filter_append, List.flatMap_append, List.filter_cons]
        cases p a <;> simp
      cases hpa : p a with
      | false =>
        simp only [Bool.false_eq_true, if_false]
        refine ⟨ns.length + 1 - (i + 1), by omega, h₄, tk₄, _, ys, i + 1, rfl, hit₄, hn₄, hD₄, ?_, hlt, rfl, keep₄⟩
        rw [step, hpa]; simpa using hys
      | true =>
        simp only [if_true]
        obtain ⟨F₄, N₄⟩ := inner hn₄ keep₄
        refine wpAny_mono (H.tup _ h₄ _ _ _ _ _ _ F₄ N₄) (fun z s₅ h₅ => ?_) fun _ _ e => e
        obtain ⟨⟨tx, its, rfl, htx, hits⟩, h₅, tk₅, rfl, hk₅⟩ := h₅
        have keep₅ : ∀ b o, s₁.heap.get? b = some o → h₅.get? b = some o := fun b o e => hk₅ _ _ (keep₄ b o e)
        have hsz : ys.size + bs.length ≤ sizeLine := by
          have e1 := IntsAre.length hys
          have e2 := flat_len p f bs H.b (ns.take i)
          have e3 : ys.toList.length = ys.size := by simp
          have e4 : (ns.take i).length ≤ ns.length := by rw [List.length_take]; omega
          have e5 := H.z
          have e6 := H.b
          rw [sizeLine_eq]
          omega
        rw [Around.mark_none]
        refine wpAny_mono (in2_walk (elt := elt) (x := x) (px := px) (iter := iter) (ct := ct) (y := y) (py := py) (iter2 := iter2) (scope := scope) (pos := pos) (f := f a) (bs := bs) (m := fun z => if z = x then some (.int a t) else m₂ z) (s := { s₁ with heap := h₅, toks := tk₅ }) (cenv := compEnvC scope cl H2.objs.size env) H.h htx hits hky hpc hDC (hn₄.keeps hk₅) (hD₄.at fun o e => hk₅ _ o e) hys hsz ?_) (fun it s₆ h₆ => ?_) fun _ _ e => e
        · intro b u s₇ m₇ E' hbm hn₇ hmy hmz hk₇
          have keep₇ : ∀ b o, s₁.heap.get? b = some o → s₇.heap.get? b = some o := fun b o e => hk₇ b o (lt1 e).1 (lt1 e).2.1 (keep₅ b o e)
          obtain ⟨F₇, N₇⟩ := inner hn₇ keep₇
          exact H.elt _ a t b u s₇.heap s₇.toks m₇ E' s₇.gens s₇.drawn s₇.os ham hpa hbm F₇ N₇ (by rw [hmz x hxy]; simp) hmy
        · refine codeAny_mono h₆ fun r s₈ h₈ => ?_
          obtain ⟨rfl, h₈, tk₈, m₈, ys₈, rfl, hn₈, hD₈, hys₈, hk₈⟩ := h₈
          refine ⟨rfl, ns.length + 1 - (i + 1), by omega, h₈, tk₈, m₈, ys₈, i + 1, rfl, ?_, hn₈, hD₈, ?_, hlt, rfl, fun b o e => hk₈ b o (lt1 e).1 (lt1 e).2.1 (keep₅ b o e)⟩
          · exact (hit₄.at fun o e => hk₅ _ o e).at fun o e => hk₈ _ o (Ne.symm hCI) (Ne.symm hDI) e
          · rw [step, hpa]; simpa using hys₈
    · have hin : i = ns.length := by omega
      subst hin
      refine wpAny_pyNext_list_end H.h hit hl' (by simp; omega) fun h₂ he₂ => ?_
      refine ⟨m₂, hn.at' fun o e => he₂ _ o hCI e, fun h'' hs'' => ?_⟩
      have keep : ∀ b o, s₁.heap.get? b = some o → h''.get? b = some o := fun b o e => hs''.extBut b o (lt1 e).1 (he₂ _ o (lt1 e).2.2 (hk b o e))
      obtain ⟨n, hD'⟩ := (hD.at fun o e => he₂ _ o hDI e).at fun o e => hs''.extBut _ o hDC e
      refine H.cont H1.objs.size ys.toList n h'' tk (H.F.keeps keep) ?_ (fun q hq => (lt1 (H.N q hq).1).2.1) (by simpa using hys)
      intro q hq
      rcases List.mem_cons.mp hq with rfl | hq
      · refine ⟨by simpa using hD', ?_, ?_⟩
        · have h2 : @LT.lt Nat _ L s₁.heap.objs.size := H.F.ns.lt
          intro e
          have e' : @Eq Nat H1.objs.size L := e
          omega
        · cases e : h₀.get? H1.objs.size with
          | none => rfl
          | some o => exact absurd rfl (lt1 (H.F.keep _ _ e)).2.1
      · exact ⟨keep _ _ (H.N q hq).1, (H.N q hq).2⟩
  exact codeAny_compStart_list (loop _) (wpAny_pyIter_listiter hit₁ (loop _))
end
end Mine
namespace Mine
theorem upd_of {D : Addr} {o o' : Obj} : ∀ {pre post : List (Addr × Obj)}, (∀ p ∈ pre, p.1 ≠ D) → (∀ p ∈ post, p.1 ≠ D) → Upd D o o' (pre ++ (D, o) :: post) (pre ++ (D, o') :: post)
  | [], _, _, h2 => .head h2
  | p :: r, _, h1, h2 => .tail (h1 p (.head _)) (upd_of (fun q hq => h1 q (.tail _ hq)) h2)
theorem any_range (ns : List Int) : (List.range ns.length).map (fun i => ns.getD i 0) = ns := by
  apply List.ext_getElem
  · simp
  · intro i h1 h2
    simp [List.getD_eq_getElem?_getD, List.getElem?_eq_getElem h2]
section
variable {prog : Program} {w : World} {A : Around} {E : Value → Shared → Prop} {s : Shared} {h₀ : Heap} {L : Addr} {m : Str → Option Value} {news news' : List (Addr × Obj)}
theorem append_G {D : Addr} {its : List Value} {n : Nat} {x : Value} {Q : Value → Shared → Prop} (F : Fr h₀ L s.heap m) (N : News h₀ L s.heap news) (U : Upd D (listOf its.toArray n) (listOf (its ++ [x]).toArray (n + 1)) news news') (hz : its.length ≤ 5000)
    (h : ∀ h', Fr h₀ L h' m → News h₀ L h' news' → Q .none { s with heap := h' }) : wpAny (model prog w) A (call (.builtin "list.append") [.ref D, x]) Q E s := by
  have e : (its ++ [x]).toArray = its.toArray.push x := by simp
  rw [e] at U
  exact append_K F N U h (by rw [sizeLine_eq]; simp; omega)
theorem extend_N {D b : Addr} {its its2 : List Value} {n n2 : Nat} {g : Obj → List (Addr × Obj)} {Q : Value → Shared → Prop} (F : Fr h₀ L s.heap m) (N : News h₀ L s.heap news) (hb : (b, listOf (List.toArray its2) n2) ∈ news) (U : UpdF D (listOf (List.toArray its) n) news g) (hz : its.length + its2.length ≤ 5000)
    (h : ∀ h' n', Fr h₀ L h' m → News h₀ L h' (g (listOf (List.toArray (its ++ its2)) n')) → Q .none { s with heap := h' }) : wpAny (model prog w) A (call (.builtin "list.extend") [.ref D, .ref b]) Q E s := by
  obtain ⟨pre, post, rfl, hg, h1, h2⟩ := U.split
  have hd : ¬(!(its.toArray).isEmpty && Builtin.List.listTooLong ((its.toArray).size + (its2.toArray).size)) = true := extend_door (by simp only [List.size_toArray]; rw [sizeLine_eq]; omega)
  by_cases e : its2 = []
  · subst e
    refine kxn_extend (its := its.toArray) (its2 := #[]) F N hb rfl (upd_of h1 h2) hd (by simp only [List.length_nil] at hz; rw [sizeLine_eq]; simp; omega) (by simp only [List.length_nil] at hz; rw [sizeLine_eq]; simp; omega) fun h' F' N' => h h' n F' ?_
    rw [hg, List.append_nil]
    exact N'
  · refine kl_extend (its := its.toArray) (its2 := its2.toArray) (l := its ++ its2) F N hb rfl (by simpa using e) (upd_of h1 h2) hd (by rw [sizeLine_eq]; simp; omega) (by rw [sizeLine_eq]; simp; omega) fun h' F' N' => h h' (n + 1) F' ?_
    rw [hg]
    exact N'
theorem set_list_N {l : Addr} {vs : List Value} {na : Nat} {ns : List Int} {Q : Value → Shared → Prop} (F : Fr h₀ L s.heap m) (N : News h₀ L s.heap news) (hm : (l, listOf (List.toArray vs) na) ∈ news) (hh : A.handled = none) (hi : IntsAre vs ns) (hb : vs.length ≤ 1000)
    (h : ∀ S so h' tk, Fr h₀ L h' m → News h₀ L h' ((S, so) :: news) → (∀ p ∈ news, p.1 < S) → IsHas so (fun k' => decide (k' ∈ ns)) → Q (.ref S) { s with heap := h', toks := tk }) :
    wpAny (model prog w) A (call (.type "set") [.ref l]) Q E s := by
  refine call_set_list (ns := ns) hh ⟨_, (N _ hm).1, rfl, na, rfl⟩ hi (by simp [scanBound]; omega) fun h' tk hS hk => ?_
  obtain ⟨so, ho, hs⟩ := isHas_of hS
  have hk' : ∀ b o, s.heap.get? b = some o → h'.get? b = some o := fun b o e => hk b o (Heap.lt_size e) e
  have hlen : vs.toArray.size = ns.length := by rw [List.size_toArray]; exact IntsAre.length hi
  rw [hlen] at hs
  refine h _ so h' tk (F.keeps hk') (News_new F N hk' (Nat.le_refl _) ho) (fun p hp => Heap.lt_size (N p hp).1) (hs.congr fun k => ?_)
  rw [firstMet_any, any_range, Bool.eq_iff_iff, List.any_eq_true, decide_eq_true_iff]
  constructor
  · rintro ⟨x, hx, e⟩
    rw [← beq_iff_eq.mp e]; exact hx
  · intro hx
    exact ⟨k, hx, beq_iff_eq.mpr rfl⟩
end
end Mine
namespace Mine
section
variable {prog : Program} {w : World} {A : Around} {E : Value → Shared → Prop} {s : Shared} {h₀ : Heap} {L : Addr} {m : Str → Option Value} {news : List (Addr × Obj)}
/-- a comprehension's end, plain or with its store -/
def CompFin (prog : Program) (w : World) (A : Around) (E : Value → Shared → Prop) (_h₀ : Heap) (_L : Addr) (use : Option (Value → Sem Unit)) (Q : Value → Shared → Prop) (s₁ : Shared) (_m : Str → Option Value) (_news : List (Addr × Obj)) (P : List Value → Prop) : Prop :=
  ∀ D C ys n h' tk m'', s₁.heap.get? D = none → s₁.heap.get? C = none → D ≠ C → h'.Ns C m'' → h'.get? D = some (listOf (List.toArray ys) n) → (∀ b o, s₁.heap.get? b = some o → h'.get? b = some o) → P ys →
    compPost (model prog w) A E use Q (.ref D) C (.ok .next) { s₁ with heap := h', toks := tk }
theorem fresh_ledger {h h'' : Heap} {D : Addr} {o : Obj} (F : Fr h₀ L h m) (N : News h₀ L h news) (hD : h.get? D = none) (keep : ∀ b o, h.get? b = some o → h''.get? b = some o) (ho : h''.get? D = some o) :
    News h₀ L h'' ((D, o) :: news) ∧ ∀ q ∈ news, q.1 ≠ D := by
  refine ⟨fun q hq => ?_, fun q hq e => ?_⟩
  · rcases List.mem_cons.mp hq with rfl | hq
    · refine ⟨ho, ?_, ?_⟩
      · rintro rfl
        obtain ⟨oL, _, _, hL, _⟩ := F.ns
        rw [hD] at hL; cases hL
      · cases e : h₀.get? D with
        | none => rfl
        | some o => rw [F.keep _ _ e] at hD; cases hD
    · exact ⟨keep _ _ (N q hq).1, (N q hq).2⟩
  · have := (N q hq).1
    rw [e, hD] at this; cases this
theorem compFin_none {Q : Value → Shared → Prop} {s₁ : Shared} {P : List Value → Prop} (F : Fr h₀ L s₁.heap m) (N : News h₀ L s₁.heap news)
    (h : ∀ D ys n h' tk, Fr h₀ L h' m → News h₀ L h' ((D, listOf (List.toArray ys) n) :: news) → (∀ q ∈ news, q.1 ≠ D) → P ys → Q (.ref D) { s₁ with heap := h', toks := tk }) : CompFin prog w A E h₀ L none Q s₁ m news P := by
  intro D C ys n h' tk m'' hD hC hDC hn hl hk hP
  refine ⟨m'', hn, fun h'' hs'' => ?_⟩
  have keep : ∀ b o, s₁.heap.get? b = some o → h''.get? b = some o := fun b o e => hs''.extBut b o (by rintro rfl; rw [hC] at e; cases e) (hk b o e)
  obtain ⟨N', hne⟩ := fresh_ledger F N hD keep (hs''.extBut _ _ hDC hl)
  exact h D ys n h'' tk (F.keeps keep) N' hne hP
theorem compFin_store {env : Env} {y : Str} {py : Pos} {Q : Value → Shared → Prop} {s₁ : Shared} {P : List Value → Prop} (F : Fr h₀ L s₁.heap m) (N : News h₀ L s₁.heap news) (hL : env.locals = L) (hy : env.kindOf y = some .local)
    (hp : (env.scope.kind == .class || (env.scope.kind == .module && env.locals != env.globals)) = false)
    (h : ∀ D ys n h' tk, Fr h₀ L h' (fun z => if z = y then some (.ref D) else m z) → News h₀ L h' ((D, listOf (List.toArray ys) n) :: news) → (∀ q ∈ news, q.1 ≠ D) → P ys → Q .none { s₁ with heap := h', toks := tk }) :
    CompFin prog w A E h₀ L (some (assign (.Name y py) env)) Q s₁ m news P := by
  intro D C ys n h' tk m'' hD hC hDC hn hl hk hP
  subst hL
  have F' : Fr h₀ env.locals h' m := F.keeps hk
  have hLC : env.locals ≠ C := by
    rintro e
    obtain ⟨oL, _, _, hL, _⟩ := F.ns
    rw [e, hC] at hL; cases hL
  have hLD : D ≠ env.locals := by
    rintro e
    obtain ⟨oL, _, _, hL, _⟩ := F.ns
    rw [← e, hD] at hL; cases hL
  show wpAny _ A (assign (.Name y py) env (.ref D)) _ _ _
  refine wpAny_assign_Name (wpAny_storeName_local hy F'.ns (fun h₂ hn₂ hs₂ => ?_) hp)
  refine ⟨m'', hn.sameBut hs₂ (Ne.symm hLC), fun h₃ hs₃ => ?_⟩
  obtain ⟨N', hne⟩ := fresh_ledger F N hD hk hl
  have F₂ := F'.set hn₂ hs₂
  have N₂ := N'.set hs₂
  have hC0 : h₀.get? C = none := by
    cases e : h₀.get? C with
    | none => rfl
    | some o => rw [F.keep _ _ e] at hC; cases hC
  refine h D ys n h₃ _ (F₂.change hs₃ (Ne.symm hLC) hC0) (fun q hq => ⟨hs₃.extBut _ _ ?_ (N₂ q hq).1, (N₂ q hq).2⟩) hne hP
  rcases List.mem_cons.mp hq with rfl | hq
  · exact hDC
  · rintro e
    have := (N q hq).1
    rw [e, hC] at this; cases this
/-- [elt for x in l if ..]: the walk stands at the source -/
def CompAtU (use : Option (Value → Sem Unit)) (E : Value → Shared → Prop) (prog : Program) (w : World) (A : Around) (h₀ : Heap) (L : Addr) (env : Env) (scope : Scope) (cl : List (Str × Addr)) (x : Str) (ifs : List PySem.Expr) (elt : PySem.Expr) (Q : Value → Shared → Prop) (xv : Value) (s₁ : Shared) : Prop :=
  ∃ (ax : Addr) (vs : List Value) (m : Str → Option Value) (news : List (Addr × Obj)) (p : Value → Bool) (R : Value → Value → Prop), xv = .ref ax ∧ Fr h₀ L s₁.heap m ∧ News h₀ L s₁.heap news ∧ s₁.heap.IsList ax vs.toArray ∧ vs.length ≤ sizeLine ∧ A.handled = none ∧
    QuietT prog w A h₀ news (fun C => compEnvC scope cl C env) x ifs (· ∈ vs) p ∧ QuietE prog w A h₀ news (fun C => compEnvC scope cl C env) x elt (· ∈ vs) p R ∧
    CompFin prog w A E h₀ L use Q s₁ m news (fun ys => Paired R (vs.filter p) ys)
theorem CompU_N {env : Env} {elt iter : PySem.Expr} {x : Str} {px : Pos} {ifs : List PySem.Expr} {scope : Scope} {cl : List (Str × Addr)} {pos pos2 : Pos} {Q : Value → Shared → Prop} (F : Fr h₀ L s.heap m)
    (hclos : closureFor scope env = pure cl) (hcell : ∀ y ∈ scope.names, y.2 ≠ .cell) (hkind : scope.kind = .function)
    (hnames : ∀ y ∈ scope.names, y.2 = .local → scope.names.lookup y.1 = some .local) (hx : scope.names.lookup x = some .local)
    (use : Option (Value → Sem Unit)) (h : wpAny (model prog w) A (eval iter env) (CompAtU use E prog w A h₀ L env scope cl x ifs elt Q) E s)
    (hs : ∀ x, foldedSetIterable iter env x = pure x := by intro _; rfl) :
    wpAny (model prog w) A (comprehension (.ListComp elt [⟨.Name x px, iter, ifs, 0⟩] scope pos) scope env pos2 (newList []) false (eval iter env) use) Q E s := by
  refine wpAny_comprehension_free (use := use) rfl hs hclos hkind hnames (wpAny_mono h (fun xv s₁ h₁ => ?_) fun _ _ e => e)
  obtain ⟨ax, vs, m', news', p, R, rfl, F', N', hl, hsz, hh, ht, he, hQ⟩ := h₁
  have hax : ax < s₁.heap.objs.size := by obtain ⟨_, e, _⟩ := id hl; exact Heap.lt_size e
  have notI : ∀ b, b < s₁.heap.objs.size → b ∉ [s₁.heap.objs.size] := fun b hb hm => by
    rcases List.mem_cons.mp hm with e | hm
    · exact Nat.lt_irrefl _ (e ▸ hb)
    · cases hm
  refine wpAny_pyIter_list hl ?_
  have W := Walks.list (prog := prog) (w := w) hh s₁.heap.objs.size ax (Nat.ne_of_lt hax) vs.toArray
  have there : ∀ {s₃ : Shared}, (∀ b o, b ∉ [s₁.heap.objs.size] → (s₁.heap.push { cls := .type "list_iterator", data := .fields #[.ref ax, .int 0 0] }).get? b = some o → s₃.heap.get? b = some o) → ∀ b o, s₁.heap.get? b = some o → s₃.heap.get? b = some o :=
    fun k b o e => k b o (notI b (Heap.lt_size e)) (Heap.get?_push_of_some _ e)
  have inner : ∀ {C : Addr} {s₃ : Shared} {m₃ : Str → Option Value}, (s₁.heap.push { cls := .type "list_iterator", data := .fields #[.ref ax, .int 0 0] }).objs.size ≤ C → s₃.heap.Ns C m₃ →
      (∀ b o, b ∉ [s₁.heap.objs.size] → (s₁.heap.push { cls := .type "list_iterator", data := .fields #[.ref ax, .int 0 0] }).get? b = some o → s₃.heap.get? b = some o) → Fr h₀ C s₃.heap m₃ ∧ News h₀ C s₃.heap news' := by
    intro C s₃ m₃ hC hn hk
    have hsC : s₁.heap.objs.size ≤ C := Nat.le_trans (by rw [Heap.size_push]; exact Nat.le_succ _) hC
    refine ⟨⟨hn, fun b o e => there hk b o (F'.keep b o e), ?_⟩, fun q hq => ⟨there hk _ _ (N' q hq).1, ?_, (N' q hq).2.2⟩⟩
    · exact Nat.le_trans (Nat.le_trans F'.above (Nat.le_of_lt F'.ns.lt)) hsC
    · exact Nat.ne_of_lt (Nat.lt_of_lt_of_le (Heap.lt_size (N' q hq).1) hsC)
  have memv : ∀ {i : Nat} {v : Value}, vs.toArray[i]? = some v → v ∈ vs := fun h => by
    rw [List.getElem?_toArray] at h
    exact List.mem_of_getElem? h
  refine comp_block_walkC (RR := fun acc C => compPost (model prog w) A E use Q acc C) W (by simpa using hsz) p R hcell hkind hx ?_ ?_ ⟨?_, ?_⟩ ?_
  · exact ⟨⟨_, Heap.get?_push_size _ rfl, rfl, rfl⟩, hl.push _⟩
  · intro b hb
    show b < (s₁.heap.push _).objs.size
    rw [Heap.size_push]
    rcases List.mem_cons.mp hb with rfl | hb
    · exact Nat.lt_succ_self _
    · rcases List.mem_cons.mp hb with rfl | hb
      · exact Nat.lt_succ_of_lt hax
      · cases hb
  · intro C i v s₃ m₃ E' hC hP hn hm hold _
    obtain ⟨F₃, N₃⟩ := inner hC hn hold
    exact ht C v s₃.heap s₃.toks m₃ E' s₃.gens s₃.drawn s₃.os (memv hP) F₃ N₃ hm
  · intro C i v s₃ m₃ E' hC hP hp hn hm hold _
    obtain ⟨F₃, N₃⟩ := inner hC hn hold
    exact he C v s₃.heap s₃.toks m₃ E' s₃.gens s₃.drawn s₃.os (memv hP) hp F₃ N₃ hm
  · intro D C h' tk m'' ys vs' hD hC hDC hn hlD hpl hlen hP hF hk
    have hh₁ : ∀ b o, s₁.heap.get? b = some o → h'.get? b = some o := there (s₃ := { s₁ with heap := h' }) hk
    have hszp : (s₁.heap.push { cls := .type "list_iterator", data := .fields #[.ref ax, .int 0 0] }).objs.size = s₁.heap.objs.size + 1 := Heap.size_push ..
    have hDn : s₁.heap.get? D = none := by
      cases e : s₁.heap.get? D with
      | none => rfl
      | some o => rw [show (s₁.heap.push { cls := .type "list_iterator", data := .fields #[.ref ax, .int 0 0] }).get? D = some o from Heap.get?_push_of_some _ e] at hD; cases hD
    have hCn : s₁.heap.get? C = none := by
      cases e : s₁.heap.get? C with
      | none => rfl
      | some o => rw [show (s₁.heap.push { cls := .type "list_iterator", data := .fields #[.ref ax, .int 0 0] }).get? C = some o from Heap.get?_push_of_some _ e] at hC; cases hC
    have hv : vs' = vs := list_of_places (by simpa using hlen) hP
    subst hv
    obtain ⟨n, hD'⟩ := hpl
    exact hQ D C ys.toList n h' tk m'' hDn hCn hDC hn (by simpa using hD') hh₁ hF
structure Comp2HU (use : Option (Value → Sem Unit)) (E : Value → Shared → Prop) (prog : Program) (w : World) (A : Around) (h₀ : Heap) (L : Addr) (env : Env) (scope : Scope) (cl : List (Str × Addr)) (x : Str) (ct : PySem.Expr) (y : Str) (iter2 elt : PySem.Expr) (Q : Value → Shared → Prop) (s₁ : Shared)
    (p : Int → Bool) (f : Int → Int → Int) (bs : List Int) (ax : Addr) (vs : List Value) (ns : List Int) (m : Str → Option Value) (news : List (Addr × Obj)) : Prop where
  F : Fr h₀ L s₁.heap m
  N : News h₀ L s₁.heap news
  l : s₁.heap.IsList ax vs.toArray
  i : IntsAre vs ns
  z : vs.length ≤ 1000
  b : bs.length ≤ 5
  h : A.handled = none
  test : ∀ C a t h tk m₃ E' g d o, a ∈ ns → Fr h₀ C h m₃ → News h₀ C h news → m₃ x = some (.int a t) → wpAny (model prog w) A (isTrue ct (compEnvC scope cl C env) (eval ct (compEnvC scope cl C env))) (fun ok s₄ => ok = p a ∧ Keeps { heap := h, toks := tk, gens := g, drawn := d, os := o } s₄) E' { heap := h, toks := tk, gens := g, drawn := d, os := o }
  tup : ∀ C h tk m₃ E' g d o, Fr h₀ C h m₃ → News h₀ C h news → wpAny (model prog w) A (eval iter2 (compEnvC scope cl C env)) (fun z s₄ => (∃ tx its, z = .ref tx ∧ s₄.heap.IsTuple tx its ∧ IntsAre its.toList bs) ∧ Keeps { heap := h, toks := tk, gens := g, drawn := d, os := o } s₄) E' { heap := h, toks := tk, gens := g, drawn := d, os := o }
  elt : ∀ C a t b u h tk m₃ E' g d o, a ∈ ns → p a = true → b ∈ bs → Fr h₀ C h m₃ → News h₀ C h news → m₃ x = some (.int a t) → m₃ y = some (.int b u) → wpAny (model prog w) A (eval elt (compEnvC scope cl C env)) (fun r s₄ => (∃ u, r = .int (f a b) u) ∧ Keeps { heap := h, toks := tk, gens := g, drawn := d, os := o } s₄) E' { heap := h, toks := tk, gens := g, drawn := d, os := o }
  cont : CompFin prog w A E h₀ L use Q s₁ m news (fun ys => IntsAre ys ((ns.filter p).flatMap fun a => bs.map (f a)))
def Comp2AtU (use : Option (Value → Sem Unit)) (E : Value → Shared → Prop) (prog : Program) (w : World) (A : Around) (h₀ : Heap) (L : Addr) (env : Env) (scope : Scope) (cl : List (Str × Addr)) (x : Str) (ct : PySem.Expr) (y : Str) (iter2 elt : PySem.Expr) (Q : Value → Shared → Prop) (xv : Value) (s₁ : Shared) : Prop :=
  ∃ p f bs ax vs ns m news, xv = .ref ax ∧ Comp2HU use E prog w A h₀ L env scope cl x ct y iter2 elt Q s₁ p f bs ax vs ns m news
theorem Comp2U_N {env : Env} {elt iter iter2 ct : PySem.Expr} {x y : Str} {px py : Pos} {scope : Scope} {cl : List (Str × Addr)} {pos pos2 : Pos} {Q : Value → Shared → Prop} (_F : Fr h₀ L s.heap m)
    (hclos : closureFor scope env = pure cl) (hcell : ∀ y ∈ scope.names, y.2 ≠ .cell) (hkind : scope.kind = .function)
    (hnames : ∀ y ∈ scope.names, y.2 = .local → scope.names.lookup y.1 = some .local) (hx : scope.names.lookup x = some .local) (hy : scope.names.lookup y = some .local) (hxy : x ≠ y)
    (use : Option (Value → Sem Unit)) (h : wpAny (model prog w) A (eval iter env) (Comp2AtU use E prog w A h₀ L env scope cl x ct y iter2 elt Q) E s)
    (hs : ∀ x, foldedSetIterable iter env x = pure x := by intro _; rfl) (hs2 : ∀ env x, foldedSetIterable iter2 env x = pure x := by intro _ _; rfl) :
    wpAny (model prog w) A (comprehension (LC2 elt x px iter ct y py iter2 scope pos) scope env pos2 (newList []) false (eval iter env) use) Q E s := by
  refine wpAny_comprehension_free (use := use) rfl hs hclos hkind hnames (wpAny_mono h (fun xv s₁ h₁ => ?_) fun _ _ e => e)
  obtain ⟨p, f, bs, ax, vs, ns, m', news', rfl, H⟩ := h₁
  have hl := H.l
  have hax : ax < s₁.heap.objs.size := by obtain ⟨_, e, _⟩ := id hl; exact Heap.lt_size e
  refine wpAny_pyIter_list hl ?_
  refine wpAny_newObj_type (wpAny_newFunctionEnv hcell (by intro y hy; simp at hy) (fun h₁ hns₁ hsb₁ => ?_) hkind)
  dsimp only at hns₁ hsb₁ ⊢
  generalize hH1 : s₁.heap.push { cls := .type "list_iterator", data := .fields #[.ref ax, .int 0 0] } = H1 at hns₁ hsb₁ ⊢
  have hI1 : H1.objs.size = s₁.heap.objs.size + 1 := by rw [← hH1, Heap.size_push]
  generalize hH2 : H1.push { cls := .type "list", dict := none, data := .seq ([] : List Value).toArray } = H2 at hns₁ hsb₁ ⊢
  have hC : H2.objs.size = H1.objs.size + 1 := by rw [← hH2, Heap.size_push]
  have hDC : H1.objs.size ≠ H2.objs.size := by rw [hC]; exact Nat.ne_of_lt (Nat.lt_succ_self _)
  have up1 : ∀ b o, s₁.heap.get? b = some o → H2.get? b = some o := fun b o e => hH2 ▸ Heap.get?_push_of_some _ (hH1 ▸ Heap.get?_push_of_some _ e)
  have lt1 : ∀ {b : Addr} {o : Obj}, s₁.heap.get? b = some o → b ≠ H2.objs.size ∧ b ≠ H1.objs.size ∧ b ≠ s₁.heap.objs.size := by
    intro b o e
    have h1 : @LT.lt Nat _ b s₁.heap.objs.size := Heap.lt_size e
    refine ⟨fun q => ?_, fun q => ?_, fun q => ?_⟩
    · have q' : @Eq Nat b H2.objs.size := q
      omega
    · have q' : @Eq Nat b H1.objs.size := q
      omega
    · have q' : @Eq Nat b s₁.heap.objs.size := q
      omega
  have hCI : H2.objs.size ≠ s₁.heap.objs.size := by omega
  have hDI : H1.objs.size ≠ s₁.heap.objs.size := by omega
  have hit₀ : H1.IsListIter s₁.heap.objs.size ax 0 := hH1 ▸ ⟨_, Heap.get?_push_size _ rfl, rfl, rfl⟩
  have hit₁ : h₁.IsListIter s₁.heap.objs.size ax 0 := hit₀.at fun o e => hsb₁.extBut _ _ (Ne.symm hCI) (Heap.get?_push_of_some _ (hH2 ▸ Heap.get?_push_of_some _ e))
  have hacc : h₁.PlainList H1.objs.size #[] := ⟨_, hsb₁.extBut _ _ hDC (Heap.get?_push_of_some _ (hH2 ▸ Heap.get?_push_size _ rfl))⟩
  have keep₁ : ∀ b o, s₁.heap.get? b = some o → h₁.get? b = some o := fun b o e => hsb₁.extBut b o (lt1 e).1 (Heap.get?_push_of_some _ (up1 b o e))
  have inner : ∀ {h' : Heap} {m₃ : Str → Option Value}, h'.Ns H2.objs.size m₃ → (∀ b o, s₁.heap.get? b = some o → h'.get? b = some o) → Fr h₀ H2.objs.size h' m₃ ∧ News h₀ H2.objs.size h' news' := by
    intro h' m₃ hn hk
    refine ⟨⟨hn, fun b o e => hk b o (H.F.keep b o e), ?_⟩, fun q hq => ⟨hk _ _ (H.N q hq).1, (lt1 (H.N q hq).1).1, (H.N q hq).2.2⟩⟩
    have h1 : @LE.le Nat _ h₀.objs.size L := H.F.above
    have h2 : @LT.lt Nat _ L s₁.heap.objs.size := H.F.ns.lt
    exact (by omega : @LE.le Nat _ h₀.objs.size H2.objs.size)
  have hkx : (compEnvC scope cl H2.objs.size env).kindOf x = some .local := lookup_relabel_local hx
  have hky : (compEnvC scope cl H2.objs.size env).kindOf y = some .local := lookup_relabel_local hy
  have hpc : ((compEnvC scope cl H2.objs.size env).scope.kind == .class || ((compEnvC scope cl H2.objs.size env).scope.kind == .module && (compEnvC scope cl H2.objs.size env).locals != (compEnvC scope cl H2.objs.size env).globals)) = false := by simp [compEnvC, relabel, hkind]
  have loop : ∀ tk₀, codeAny (model prog w) A (.compLoop (LC2 elt x px iter ct y py iter2 scope pos) 0 (.ref s₁.heap.objs.size) (.ref H1.objs.size) (compEnvC scope cl H2.objs.size env)) (compPost (model prog w) A E use Q (.ref H1.objs.size) H2.objs.size)
      { s₁ with heap := h₁, toks := tk₀ } := by
    intro tk₀
    refine loop2_out (fun k s' => ∃ h' tk m₂ ys i, s' = { s₁ with heap := h', toks := tk } ∧ h'.IsListIter s₁.heap.objs.size ax i ∧ h'.Ns H2.objs.size m₂ ∧ h'.PlainList H1.objs.size ys ∧ IntsAre ys.toList (((ns.take i).filter p).flatMap fun a => bs.map (f a)) ∧ i ≤ ns.length ∧ k = ns.length + 1 - i ∧
      (∀ b o, s₁.heap.get? b = some o → h'.get? b = some o)) ?_ (ns.length + 1) ⟨h₁, tk₀, _, #[], 0, rfl, hit₁, hns₁, hacc, by simpa using IntsAre.nil, Nat.zero_le _, rfl, keep₁⟩ (hs2 _)
    rintro k s' ⟨h', tk, m₂, ys, i, rfl, hit, hn, hD, hys, hi, rfl, hk⟩
    have hl' : h'.IsList ax vs.toArray := by obtain ⟨o, e, r⟩ := id hl; exact ⟨o, hk _ _ e, r⟩
    have hlen := IntsAre.length H.i
    by_cases hlt : i < ns.length
    · have hlt' : i < vs.length := by rw [hlen]; exact hlt
      have hx0 : vs[i]? = some vs[i] := List.getElem?_eq_getElem hlt'
      obtain ⟨a, t, ea, hai⟩ := ints_at H.i i _ hx0
      have hxa : vs.toArray[i]? = some (.int a t) := by rw [← ea, ← hx0]; simp
      have ham : a ∈ ns := List.mem_of_getElem? hai
      refine wpAny_pyNext_list_item hit hl' hxa fun h₂ hit₂ hs₂ => ?_
      refine wpAny_assign_Name (wpAny_storeName_local hkx (hn.at' fun o e => hs₂.extBut _ o hCI e) (fun h₃ hn₃ hs₃ => ?_) hpc)
      have keep₃ : ∀ b o, s₁.heap.get? b = some o → h₃.get? b = some o := fun b o e => hs₃.extBut _ o (lt1 e).1 (hs₂.extBut _ o (lt1 e).2.2 (hk b o e))
      obtain ⟨F₃, N₃⟩ := inner hn₃ keep₃
      refine wpAny_mono (H.test _ a t h₃ _ _ _ _ _ _ ham F₃ N₃ (by simp)) (fun ok s₄ h₄ => ?_) fun _ _ e => e
      obtain ⟨rfl, h₄, tk₄, rfl, hk₄⟩ := h₄
      have hn₄ := hn₃.keeps hk₄
      have keep₄ : ∀ b o, s₁.heap.get? b = some o → h₄.get? b = some o := fun b o e => hk₄ _ _ (keep₃ b o e)
      have hit₄ : h₄.IsListIter s₁.heap.objs.size ax (i + 1) := (hit₂.at fun o e => hs₃.extBut _ o (Ne.symm hCI) e).at fun o e => hk₄ _ o e
      have hD₄ : h₄.PlainList H1.objs.size ys := ((hD.at fun o e => hs₂.extBut _ o hDI e).at fun o e => hs₃.extBut _ o hDC e).at fun o e => hk₄ _ o e
      have step : ((ns.take (i + 1)).filter p).flatMap (fun a => bs.map (f a)) = ((ns.take i).filter p).flatMap (fun a => bs.map (f a)) ++ (if p a then bs.map (f a) else []) := by
        rw [List.take_add_one, hai, Option.toList_some, List.filter_append, List.flatMap_append, List.filter_cons]
        cases p a <;> simp
      cases hpa : p a with
      | false =>
        simp only [Bool.false_eq_true, if_false]
        refine ⟨ns.length + 1 - (i + 1), by omega, h₄, tk₄, _, ys, i + 1, rfl, hit₄, hn₄, hD₄, ?_, hlt, rfl, keep₄⟩
        rw [step, hpa]; simpa using hys
      | true =>
        simp only [if_true]
        obtain ⟨F₄, N₄⟩ := inner hn₄ keep₄
        refine wpAny_mono (H.tup _ h₄ _ _ _ _ _ _ F₄ N₄) (fun z s₅ h₅ => ?_) fun _ _ e => e
        obtain ⟨⟨tx, its, rfl, htx, hits⟩, h₅, tk₅, rfl, hk₅⟩ := h₅
        have keep₅ : ∀ b o, s₁.heap.get? b = some o → h₅.get? b = some o := fun b o e => hk₅ _ _ (keep₄ b o e)
        have hsz : ys.size + bs.length ≤ sizeLine := by
          have e1 := IntsAre.length hys
          have e2 := flat_len p f bs H.b (ns.take i)
          have e3 : ys.toList.length = ys.size := by simp
          have e4 : (ns.take i).length ≤ ns.length := by rw [List.length_take]; omega
          have e5 := H.z
          have e6 := H.b
          rw [sizeLine_eq]
          omega
        rw [Around.mark_none]
        refine wpAny_mono (in2_walk (elt := elt) (x := x) (px := px) (iter := iter) (ct := ct) (y := y) (py := py) (iter2 := iter2) (scope := scope) (pos := pos) (f := f a) (bs := bs) (m := fun z => if z = x then some (.int a t) else m₂ z) (s := { s₁ with heap := h₅, toks := tk₅ }) (cenv := compEnvC scope cl H2.objs.size env) H.h htx hits hky hpc hDC (hn₄.keeps hk₅) (hD₄.at fun o e => hk₅ _ o e) hys hsz ?_) (fun it s₆ h₆ => ?_) fun _ _ e => e
        · intro b u s₇ m₇ E' hbm hn₇ hmy hmz hk₇
          have keep₇ : ∀ b o, s₁.heap.get? b = some o → s₇.heap.get? b = some o := fun b o e => hk₇ b o (lt1 e).1 (lt1 e).2.1 (keep₅ b o e)
          obtain ⟨F₇, N₇⟩ := inner hn₇ keep₇
          exact H.elt _ a t b u s₇.heap s₇.toks m₇ E' s₇.gens s₇.drawn s₇.os ham hpa hbm F₇ N₇ (by rw [hmz x hxy]; simp) hmy
        · refine codeAny_mono h₆ fun r s₈ h₈ => ?_
          obtain ⟨rfl, h₈, tk₈, m₈, ys₈, rfl, hn₈, hD₈, hys₈, hk₈⟩ := h₈
          refine ⟨rfl, ns.length + 1 - (i + 1), by omega, h₈, tk₈, m₈, ys₈, i + 1, rfl, ?_, hn₈, hD₈, ?_, hlt, rfl, fun b o e => hk₈ b o (lt1 e).1 (lt1 e).2.1 (keep₅ b o e)⟩
          · exact (hit₄.at fun o e => hk₅ _ o e).at fun o e => hk₈ _ o (Ne.symm hCI) (Ne.symm hDI) e
          · rw [step, hpa]; simpa using hys₈
    · have hin : i = ns.length := by omega
      subst hin
      refine wpAny_pyNext_list_end H.h hit hl' (by simp; omega) fun h₂ he₂ => ?_
      obtain ⟨n, hD'⟩ := hD.at fun o e => he₂ _ o hDI e
      have fresh : ∀ a, s₁.heap.objs.size ≤ a → s₁.heap.get? a = none := fun a ha => by
        cases e : s₁.heap.get? a with
        | none => rfl
        | some o => exact absurd (Heap.lt_size e) (Nat.not_lt.mpr ha)
      exact H.cont H1.objs.size H2.objs.size ys.toList n h₂ tk m₂ (fresh _ (by omega)) (fresh _ (by omega)) hDC (hn.at' fun o e => he₂ _ o hCI e) (by simpa using hD') (fun b o e => he₂ _ o (lt1 e).2.2 (hk b o e)) (by simpa using hys)
  exact codeAny_compStart_list (loop _) (wpAny_pyIter_listiter hit₁ (loop _))
end
end Mine
namespace Mine
theorem allLt_ne {d x : Nat} : ∀ {own : List (Addr × Obj)}, AllLt d own → d ≤ x → ∀ p ∈ own, p.1 ≠ x
  | [], _, _, _, hp => nomatch hp
  | q :: r, h, hx, p, hp => by
    rcases List.mem_cons.mp hp with rfl | hp
    · exact Nat.ne_of_lt (Nat.lt_of_lt_of_le h.1 hx)
    · exact allLt_ne h.2 hx p hp
section
variable {prog : Program} {w : World} {A : Around} {E : Value → Shared → Prop} {s : Shared} {h₀ : Heap} {L : Addr} {m : Str → Option Value} {news : List (Addr × Obj)}
theorem Comp_eval {env : Env} {elt iter : PySem.Expr} {x : Str} {px : Pos} {ifs : List PySem.Expr} {scope : Scope} {cl : List (Str × Addr)} {pos : Pos} {Q : Value → Shared → Prop} (F : Fr h₀ L s.heap m)
    (hclos : closureFor scope env = pure cl) (hcell : ∀ y ∈ scope.names, y.2 ≠ .cell) (hkind : scope.kind = .function)
    (hnames : ∀ y ∈ scope.names, y.2 = .local → scope.names.lookup y.1 = some .local) (hx : scope.names.lookup x = some .local)
    (h : wpAny (model prog w) A (eval iter env) (CompAtU none E prog w A h₀ L env scope cl x ifs elt Q) E s)
    (hs : ∀ x, foldedSetIterable iter env x = pure x := by intro _; rfl) :
    wpAny (model prog w) A (eval (.ListComp elt [⟨.Name x px, iter, ifs, 0⟩] scope pos) env) Q E s := by
  rw [eval_ListComp]
  exact CompU_N F hclos hcell hkind hnames hx none h hs
theorem Comp_assign {env : Env} {elt iter : PySem.Expr} {x y : Str} {px py : Pos} {ifs : List PySem.Expr} {scope : Scope} {cl : List (Str × Addr)} {pos spos : Pos} {Q : Flow → Shared → Prop} (F : Fr h₀ L s.heap m)
    (hclos : closureFor scope env = pure cl) (hcell : ∀ y ∈ scope.names, y.2 ≠ .cell) (hkind : scope.kind = .function)
    (hnames : ∀ y ∈ scope.names, y.2 = .local → scope.names.lookup y.1 = some .local) (hx : scope.names.lookup x = some .local)
    (hsw : swapsWith (.ListComp elt [⟨.Name x px, iter, ifs, 0⟩] scope pos) (some (.Name y py)) spos.line env = pure true)
    (h : wpAny (model prog w) A (eval iter env) (CompAtU (some (assign (.Name y py) env)) E prog w A h₀ L env scope cl x ifs elt (fun _ s' => Q .next s')) E s)
    (hs : ∀ x, foldedSetIterable iter env x = pure x := by intro _; rfl) :
    wpAny (model prog w) A (exec (.Assign [.Name y py] (.ListComp elt [⟨.Name x px, iter, ifs, 0⟩] scope pos) spos) env) Q E s := by
  rw [exec_Assign_Name_used _ _ _ _ hsw]
  refine wpAny_bind (wpAny_standAt (wpAny_bind ?_))
  show wpAny _ A (do let _ ← comprehension (.ListComp elt [⟨.Name x px, iter, ifs, 0⟩] scope pos) scope env _ (newList []) false (eval iter env) (some (assign (.Name y py) env))) _ _ s
  refine wpAny_bind (wpAny_mono (CompU_N (Q := fun _ s' => Q .next s') F hclos hcell hkind hnames hx (some (assign (.Name y py) env)) h hs) (fun _ s' hq => wpAny_pure (wpAny_pure hq)) fun _ _ e => e)
theorem Comp2_eval {env : Env} {elt iter iter2 ct : PySem.Expr} {x y : Str} {px py : Pos} {scope : Scope} {cl : List (Str × Addr)} {pos : Pos} {Q : Value → Shared → Prop} (F : Fr h₀ L s.heap m)
    (hclos : closureFor scope env = pure cl) (hcell : ∀ y ∈ scope.names, y.2 ≠ .cell) (hkind : scope.kind = .function)
    (hnames : ∀ y ∈ scope.names, y.2 = .local → scope.names.lookup y.1 = some .local) (hx : scope.names.lookup x = some .local) (hy : scope.names.lookup y = some .local) (hxy : x ≠ y)
    (h : wpAny (model prog w) A (eval iter env) (Comp2AtU none E prog w A h₀ L env scope cl x ct y iter2 elt Q) E s)
    (hs : ∀ x, foldedSetIterable iter env x = pure x := by intro _; rfl) (hs2 : ∀ env x, foldedSetIterable iter2 env x = pure x := by intro _ _; rfl) :
    wpAny (model prog w) A (eval (.ListComp elt [⟨.Name x px, iter, [ct], 0⟩, ⟨.Name y py, iter2, [], 0⟩] scope pos) env) Q E s := by
  rw [eval_ListComp]
  exact Comp2U_N F hclos hcell hkind hnames hx hy hxy none h hs hs2
theorem Comp2_assign {env : Env} {elt iter iter2 ct : PySem.Expr} {x y z : Str} {px py pz : Pos} {scope : Scope} {cl : List (Str × Addr)} {pos spos : Pos} {Q : Flow → Shared → Prop} (F : Fr h₀ L s.heap m)
    (hclos : closureFor scope env = pure cl) (hcell : ∀ y ∈ scope.names, y.2 ≠ .cell) (hkind : scope.kind = .function)
    (hnames : ∀ y ∈ scope.names, y.2 = .local → scope.names.lookup y.1 = some .local) (hx : scope.names.lookup x = some .local) (hy : scope.names.lookup y = some .local) (hxy : x ≠ y)
    (hsw : swapsWith (.ListComp elt [⟨.Name x px, iter, [ct], 0⟩, ⟨.Name y py, iter2, [], 0⟩] scope pos) (some (.Name z pz)) spos.line env = pure true)
    (h : wpAny (model prog w) A (eval iter env) (Comp2AtU (some (assign (.Name z pz) env)) E prog w A h₀ L env scope cl x ct y iter2 elt (fun _ s' => Q .next s')) E s)
    (hs : ∀ x, foldedSetIterable iter env x = pure x := by intro _; rfl) (hs2 : ∀ env x, foldedSetIterable iter2 env x = pure x := by intro _ _; rfl) :
    wpAny (model prog w) A (exec (.Assign [.Name z pz] (.ListComp elt [⟨.Name x px, iter, [ct], 0⟩, ⟨.Name y py, iter2, [], 0⟩] scope pos) spos) env) Q E s := by
  rw [exec_Assign_Name_used _ _ _ _ hsw]
  refine wpAny_bind (wpAny_standAt (wpAny_bind ?_))
  show wpAny _ A (do let _ ← comprehension (LC2 elt x px iter ct y py iter2 scope pos) scope env _ (newList []) false (eval iter env) (some (assign (.Name z pz) env))) _ _ s
  refine wpAny_bind (wpAny_mono (Comp2U_N (Q := fun _ s' => Q .next s') F hclos hcell hkind hnames hx hy hxy (some (assign (.Name z pz) env)) h hs hs2) (fun _ s' hq => wpAny_pure (wpAny_pure hq)) fun _ _ e => e)
/-- [x for x in l if ct], l of ints -/
theorem comp_intsU (p : Int → Bool) {use : Option (Value → Sem Unit)} {env : Env} {scope : Scope} {cl : List (Str × Addr)} {x : Str} {ct : PySem.Expr} {pos : Pos} {Q : Value → Shared → Prop} {ax : Addr} {vs : List Value} {na : Nat} {ns : List Int}
    (F : Fr h₀ L s.heap m) (N : News h₀ L s.heap news) (hm : (ax, listOf (List.toArray vs) na) ∈ news) (hi : IntsAre vs ns) (hz : vs.length ≤ 1000) (hh : A.handled = none)
    (hk : scope.kind = .function) (hx : ∀ C, (compEnvC scope cl C env).kindOf x = some .local) (hd : (x == ("__debug__" : Str)) = false)
    (fin : CompFin prog w A E h₀ L use Q s m news (fun ys => IntsAre ys (ns.filter p)))
    (test : ∀ C a t h tk m₃ E' g d o, a ∈ ns → Fr h₀ C h m₃ → News h₀ C h news → m₃ x = some (.int a t) → wpAny (model prog w) A (isTrue ct (compEnvC scope cl C env) (eval ct (compEnvC scope cl C env))) (fun ok s₄ => ok = p a ∧ Keeps { heap := h, toks := tk, gens := g, drawn := d, os := o } s₄) E' { heap := h, toks := tk, gens := g, drawn := d, os := o }) :
    CompAtU use E prog w A h₀ L env scope cl x [ct] (.Name x pos) Q (.ref ax) s := by
  refine ⟨ax, vs, m, news, pvOf p, fun v y => y = v, rfl, F, N, ⟨_, (N _ hm).1, rfl, na, rfl⟩, by rw [sizeLine_eq]; omega, hh, quietT_one ?_, ?_, ?_⟩
  · intro C v h tk m₃ E' g d o hv F₃ N₃ hm₃
    obtain ⟨a, t, rfl, ha⟩ := ints_get hi v hv
    exact test C a t h tk m₃ E' g d o ha F₃ N₃ hm₃
  · intro C v h tk m₃ E' g d o hv _ F₃ N₃ hm₃
    exact name_comp (s := { heap := h, toks := tk, gens := g, drawn := d, os := o }) F₃ hm₃ ⟨rfl, ⟨_, _, rfl, fun _ _ e => e⟩⟩ hk (hx C) hd
  · intro D C ys n h' tk m'' a1 a2 a3 a4 a5 a6 hP
    exact fin D C ys n h' tk m'' a1 a2 a3 a4 a5 a6 (paired_filter (fun _ _ => rfl) hi hP)
/-- [elt for x in l], l of ints, elt an int -/
theorem comp_mapU (f : Int → Int) {use : Option (Value → Sem Unit)} {env : Env} {scope : Scope} {cl : List (Str × Addr)} {x : Str} {elt : PySem.Expr} {Q : Value → Shared → Prop} {ax : Addr} {vs : List Value} {na : Nat} {ns : List Int}
    (F : Fr h₀ L s.heap m) (N : News h₀ L s.heap news) (hm : (ax, listOf (List.toArray vs) na) ∈ news) (hi : IntsAre vs ns) (hz : vs.length ≤ 1000) (hh : A.handled = none)
    (fin : CompFin prog w A E h₀ L use Q s m news (fun ys => IntsAre ys (ns.map f)))
    (el : ∀ C a t h tk m₃ E' g d o, a ∈ ns → Fr h₀ C h m₃ → News h₀ C h news → m₃ x = some (.int a t) → wpAny (model prog w) A (eval elt (compEnvC scope cl C env)) (fun y s₄ => (∃ u, y = .int (f a) u) ∧ Keeps { heap := h, toks := tk, gens := g, drawn := d, os := o } s₄) E' { heap := h, toks := tk, gens := g, drawn := d, os := o }) :
    CompAtU use E prog w A h₀ L env scope cl x [] elt Q (.ref ax) s := by
  refine ⟨ax, vs, m, news, fun _ => true, fun v y => ∃ a t u, v = Value.int a t ∧ y = Value.int (f a) u, rfl, F, N, ⟨_, (N _ hm).1, rfl, na, rfl⟩, by rw [sizeLine_eq]; omega, hh, quietT_nil, ?_, ?_⟩
  · intro C v h tk m₃ E' g d o hv _ F₃ N₃ hm₃
    obtain ⟨a, t, rfl, ha⟩ := ints_get hi v hv
    exact wpAny_mono (el C a t h tk m₃ E' g d o ha F₃ N₃ hm₃) (fun y s₄ z => ⟨by obtain ⟨⟨u, e⟩, _⟩ := z; exact ⟨a, t, u, rfl, e⟩, z.2⟩) fun _ _ z => z
  · intro D C ys n h' tk m'' a1 a2 a3 a4 a5 a6 hP
    exact fin D C ys n h' tk m'' a1 a2 a3 a4 a5 a6 (paired_map hi hP)
end
end Mine
namespace Mine
theorem ints_of_get : ∀ (vs : List Value) (ns : List Int), vs.length = ns.length → (∀ (j : Nat) (v : Value), vs[j]? = some v → ∃ (k : Int) (t : Tok), ns[j]? = some k ∧ v = Value.int k t) → IntsAre vs ns
  | [], [], _, _ => .nil
  | [], _ :: _, h, _ => by simp at h
  | _ :: _, [], h, _ => by simp at h
  | v :: r, k :: q, h, hg => by
    obtain ⟨k', t, e, rfl⟩ := hg 0 v rfl
    simp at e; subst e
    exact .cons _ _ (ints_of_get r q (by simpa using h) fun j v hj => by simpa using hg (j + 1) v (by simpa using hj))
section
variable {prog : Program} {w : World} {A : Around} {E : Value → Shared → Prop} {s : Shared} {h₀ : Heap} {L : Addr} {m : Str → Option Value} {news : List (Addr × Obj)}
def CompAtR (use : Option (Value → Sem Unit)) (E : Value → Shared → Prop) (prog : Program) (w : World) (A : Around) (h₀ : Heap) (L : Addr) (env : Env) (scope : Scope) (cl : List (Str × Addr)) (x : Str) (ifs : List PySem.Expr) (elt : PySem.Expr) (Q : Value → Shared → Prop) (xv : Value) (s₁ : Shared) : Prop :=
  ∃ (r : Addr) (ra rb rc : Int) (t u v : Tok) (n : Nat) (m : Str → Option Value) (news : List (Addr × Obj)) (p : Value → Bool) (R : Value → Value → Prop), xv = .ref r ∧ Fr h₀ L s₁.heap m ∧ News h₀ L s₁.heap news ∧ IsRange s₁.heap r ra rb rc t u v ∧ Builtin.Range.small ra rb rc = true ∧ Builtin.Range.rangeSize ra rb rc = (n : Int) ∧ n ≤ sizeLine ∧ A.handled = none ∧
    QuietT prog w A h₀ news (fun C => compEnvC scope cl C env) x ifs (fun v => ∃ k t, v = .int k t ∧ k ∈ rangeInts ra rc n) p ∧ QuietE prog w A h₀ news (fun C => compEnvC scope cl C env) x elt (fun v => ∃ k t, v = .int k t ∧ k ∈ rangeInts ra rc n) p R ∧
    CompFin prog w A E h₀ L use Q s₁ m news (fun ys => ∃ vs, IntsAre vs (rangeInts ra rc n) ∧ Paired R (vs.filter p) ys)
theorem CompR_N {env : Env} {elt iter : PySem.Expr} {x : Str} {px : Pos} {ifs : List PySem.Expr} {scope : Scope} {cl : List (Str × Addr)} {pos pos2 : Pos} {Q : Value → Shared → Prop} (F : Fr h₀ L s.heap m)
    (hclos : closureFor scope env = pure cl) (hcell : ∀ y ∈ scope.names, y.2 ≠ .cell) (hkind : scope.kind = .function)
    (hnames : ∀ y ∈ scope.names, y.2 = .local → scope.names.lookup y.1 = some .local) (hx : scope.names.lookup x = some .local)
    (use : Option (Value → Sem Unit)) (h : wpAny (model prog w) A (eval iter env) (CompAtR use E prog w A h₀ L env scope cl x ifs elt Q) E s)
    (hs : ∀ x, foldedSetIterable iter env x = pure x := by intro _; rfl) :
    wpAny (model prog w) A (comprehension (.ListComp elt [⟨.Name x px, iter, ifs, 0⟩] scope pos) scope env pos2 (newList []) false (eval iter env) use) Q E s := by
  refine wpAny_comprehension_free (use := use) rfl hs hclos hkind hnames (wpAny_mono h (fun xv s₁ h₁ => ?_) fun _ _ e => e)
  obtain ⟨r, ra, rb, rc, rt, ru, rv, n, m', news', p, R, rfl, F', N', hr, hsm, hn', hsz, hh, ht, he, hQ⟩ := h₁
  have notI : ∀ b, b < s₁.heap.objs.size → b ∉ [s₁.heap.objs.size] := fun b hb hm => by
    rcases List.mem_cons.mp hm with e | hm
    · exact Nat.lt_irrefl _ (e ▸ hb)
    · cases hm
  refine wpAny_pyIter_range hr hsm ?_
  rw [hn']
  have W := (Walks.range (prog := prog) (w := w) hh s₁.heap.objs.size ra rc n).bound
  have there : ∀ {s₃ : Shared}, (∀ b o, b ∉ [s₁.heap.objs.size] → (s₁.heap.push { cls := .type "range_iterator", data := .fields #[rawInt ra, rawInt (n : Int), rawInt rc] }).get? b = some o → s₃.heap.get? b = some o) → ∀ b o, s₁.heap.get? b = some o → s₃.heap.get? b = some o :=
    fun k b o e => k b o (notI b (Heap.lt_size e)) (Heap.get?_push_of_some _ e)
  have inner : ∀ {C : Addr} {s₃ : Shared} {m₃ : Str → Option Value}, (s₁.heap.push { cls := .type "range_iterator", data := .fields #[rawInt ra, rawInt (n : Int), rawInt rc] }).objs.size ≤ C → s₃.heap.Ns C m₃ →
      (∀ b o, b ∉ [s₁.heap.objs.size] → (s₁.heap.push { cls := .type "range_iterator", data := .fields #[rawInt ra, rawInt (n : Int), rawInt rc] }).get? b = some o → s₃.heap.get? b = some o) → Fr h₀ C s₃.heap m₃ ∧ News h₀ C s₃.heap news' := by
    intro C s₃ m₃ hC hn hk
    have hsC : s₁.heap.objs.size ≤ C := Nat.le_trans (by rw [Heap.size_push]; exact Nat.le_succ _) hC
    refine ⟨⟨hn, fun b o e => there hk b o (F'.keep b o e), ?_⟩, fun q hq => ⟨there hk _ _ (N' q hq).1, ?_, (N' q hq).2.2⟩⟩
    · exact Nat.le_trans (Nat.le_trans F'.above (Nat.le_of_lt F'.ns.lt)) hsC
    · exact Nat.ne_of_lt (Nat.lt_of_lt_of_le (Heap.lt_size (N' q hq).1) hsC)
  have memv : ∀ {i : Nat} {v : Value}, (i < n ∧ ∃ t, v = Value.int (ra + (i : Nat) * rc) t) → ∃ k t, v = .int k t ∧ k ∈ rangeInts ra rc n := fun h => by
    obtain ⟨hi, t, e⟩ := h
    exact ⟨_, t, e, List.mem_of_getElem? (rangeInts_get hi)⟩
  refine comp_block_walkC (RR := fun acc C => compPost (model prog w) A E use Q acc C) W (by simpa using hsz) p R hcell hkind hx ?_ ?_ ⟨?_, ?_⟩ ?_
  · show IsRangeIter _ _ _ _ _
    simpa using Heap.get?_push_size s₁.heap (o := { cls := .type "range_iterator", data := .fields #[rawInt ra, rawInt (n : Int), rawInt rc] }) rfl
  · intro b hb
    show b < (s₁.heap.push _).objs.size
    rw [Heap.size_push]
    rcases List.mem_cons.mp hb with rfl | hb
    · exact Nat.lt_succ_self _
    · cases hb
  · intro C i v s₃ m₃ E' hC hP hn hm hold _
    obtain ⟨F₃, N₃⟩ := inner hC hn hold
    exact ht C v s₃.heap s₃.toks m₃ E' s₃.gens s₃.drawn s₃.os (memv hP) F₃ N₃ hm
  · intro C i v s₃ m₃ E' hC hP hp hn hm hold _
    obtain ⟨F₃, N₃⟩ := inner hC hn hold
    exact he C v s₃.heap s₃.toks m₃ E' s₃.gens s₃.drawn s₃.os (memv hP) hp F₃ N₃ hm
  · intro D C h' tk m'' ys vs' hD hC hDC hn hlD hpl hlen hP hF hk
    have hh₁ : ∀ b o, s₁.heap.get? b = some o → h'.get? b = some o := there (s₃ := { s₁ with heap := h' }) hk
    have hszp : (s₁.heap.push { cls := .type "range_iterator", data := .fields #[rawInt ra, rawInt (n : Int), rawInt rc] }).objs.size = s₁.heap.objs.size + 1 := Heap.size_push ..
    have hDn : s₁.heap.get? D = none := by
      cases e : s₁.heap.get? D with
      | none => rfl
      | some o => rw [show (s₁.heap.push { cls := .type "range_iterator", data := .fields #[rawInt ra, rawInt (n : Int), rawInt rc] }).get? D = some o from Heap.get?_push_of_some _ e] at hD; cases hD
    have hCn : s₁.heap.get? C = none := by
      cases e : s₁.heap.get? C with
      | none => rfl
      | some o => rw [show (s₁.heap.push { cls := .type "range_iterator", data := .fields #[rawInt ra, rawInt (n : Int), rawInt rc] }).get? C = some o from Heap.get?_push_of_some _ e] at hC; cases hC
    have hv : IntsAre vs' (rangeInts ra rc n) := ints_of_get vs' _ (by rw [hlen, rangeInts_length]) fun j v hj => by
      obtain ⟨hi, t, e⟩ := hP j v hj
      exact ⟨_, t, rangeInts_get hi, e⟩
    obtain ⟨nn, hD'⟩ := hpl
    exact hQ D C ys.toList nn h' tk m'' hDn hCn hDC hn (by simpa using hD') hh₁ ⟨vs', hv, hF⟩
end
end Mine
namespace Mine
section
variable {prog : Program} {w : World} {A : Around} {E : Value → Shared → Prop} {s : Shared} {h₀ : Heap} {L : Addr} {m : Str → Option Value} {news : List (Addr × Obj)}
theorem CompR_eval {env : Env} {elt iter : PySem.Expr} {x : Str} {px : Pos} {ifs : List PySem.Expr} {scope : Scope} {cl : List (Str × Addr)} {pos : Pos} {Q : Value → Shared → Prop} (F : Fr h₀ L s.heap m)
    (hclos : closureFor scope env = pure cl) (hcell : ∀ y ∈ scope.names, y.2 ≠ .cell) (hkind : scope.kind = .function)
    (hnames : ∀ y ∈ scope.names, y.2 = .local → scope.names.lookup y.1 = some .local) (hx : scope.names.lookup x = some .local)
    (h : wpAny (model prog w) A (eval iter env) (CompAtR none E prog w A h₀ L env scope cl x ifs elt Q) E s)
    (hs : ∀ x, foldedSetIterable iter env x = pure x := by intro _; rfl) :
    wpAny (model prog w) A (eval (.ListComp elt [⟨.Name x px, iter, ifs, 0⟩] scope pos) env) Q E s := by
  rw [eval_ListComp]
  exact CompR_N F hclos hcell hkind hnames hx none h hs
theorem CompR_assign {env : Env} {elt iter : PySem.Expr} {x y : Str} {px py : Pos} {ifs : List PySem.Expr} {scope : Scope} {cl : List (Str × Addr)} {pos spos : Pos} {Q : Flow → Shared → Prop} (F : Fr h₀ L s.heap m)
    (hclos : closureFor scope env = pure cl) (hcell : ∀ y ∈ scope.names, y.2 ≠ .cell) (hkind : scope.kind = .function)
    (hnames : ∀ y ∈ scope.names, y.2 = .local → scope.names.lookup y.1 = some .local) (hx : scope.names.lookup x = some .local)
    (hsw : swapsWith (.ListComp elt [⟨.Name x px, iter, ifs, 0⟩] scope pos) (some (.Name y py)) spos.line env = pure true)
    (h : wpAny (model prog w) A (eval iter env) (CompAtR (some (assign (.Name y py) env)) E prog w A h₀ L env scope cl x ifs elt (fun _ s' => Q .next s')) E s)
    (hs : ∀ x, foldedSetIterable iter env x = pure x := by intro _; rfl) :
    wpAny (model prog w) A (exec (.Assign [.Name y py] (.ListComp elt [⟨.Name x px, iter, ifs, 0⟩] scope pos) spos) env) Q E s := by
  rw [exec_Assign_Name_used _ _ _ _ hsw]
  refine wpAny_bind (wpAny_standAt (wpAny_bind ?_))
  show wpAny _ A (do let _ ← comprehension (.ListComp elt [⟨.Name x px, iter, ifs, 0⟩] scope pos) scope env _ (newList []) false (eval iter env) (some (assign (.Name y py) env))) _ _ s
  refine wpAny_bind (wpAny_mono (CompR_N (Q := fun _ s' => Q .next s') F hclos hcell hkind hnames hx (some (assign (.Name y py) env)) h hs) (fun _ s' hq => wpAny_pure (wpAny_pure hq)) fun _ _ e => e)
theorem paired_pf {p : Int → Bool} {f : Int → Int} {pv : Value → Bool} (hpv : ∀ a t, pv (.int a t) = p a) {vs : List Value} {ns : List Int} (h : IntsAre vs ns) : ∀ {ys : List Value}, Paired (fun v y => ∃ a t u, v = Value.int a t ∧ y = Value.int (f a) u) (vs.filter pv) ys → IntsAre ys ((ns.filter p).map f) := by
  induction h with
  | nil => intro ys hy; cases hy; exact .nil
  | cons n t _ ih =>
    intro ys hy
    rw [List.filter_cons, hpv] at hy
    rw [List.filter_cons]
    cases hp : p n with
    | false =>
      rw [hp, if_neg Bool.false_ne_true] at hy
      rw [if_neg Bool.false_ne_true]
      exact ih hy
    | true =>
      rw [hp, if_pos rfl] at hy
      rw [if_pos rfl]
      cases hy with
      | cons e r =>
        obtain ⟨a, t', u, e1, e2⟩ := e
        cases e1; subst e2
        exact .cons _ _ (ih r)
/-- [elt for x in range if ct], elt an int -/
theorem compR_pf (p : Int → Bool) (f : Int → Int) {use : Option (Value → Sem Unit)} {env : Env} {scope : Scope} {cl : List (Str × Addr)} {x : Str} {ct elt : PySem.Expr} {Q : Value → Shared → Prop} {r : Addr} {ra rb rc : Int} {t u v : Tok} {n : Nat}
    (F : Fr h₀ L s.heap m) (N : News h₀ L s.heap news) (hr : IsRange s.heap r ra rb rc t u v) (hsm : Builtin.Range.small ra rb rc = true) (hn : Builtin.Range.rangeSize ra rb rc = (n : Int)) (hz : n ≤ 1000) (hh : A.handled = none)
    (fin : CompFin prog w A E h₀ L use Q s m news (fun ys => IntsAre ys (((rangeInts ra rc n).filter p).map f)))
    (test : ∀ C a t h tk m₃ E' g d o, a ∈ rangeInts ra rc n → Fr h₀ C h m₃ → News h₀ C h news → m₃ x = some (.int a t) → wpAny (model prog w) A (isTrue ct (compEnvC scope cl C env) (eval ct (compEnvC scope cl C env))) (fun ok s₄ => ok = p a ∧ Keeps { heap := h, toks := tk, gens := g, drawn := d, os := o } s₄) E' { heap := h, toks := tk, gens := g, drawn := d, os := o })
    (el : ∀ C a t h tk m₃ E' g d o, a ∈ rangeInts ra rc n → p a = true → Fr h₀ C h m₃ → News h₀ C h news → m₃ x = some (.int a t) → wpAny (model prog w) A (eval elt (compEnvC scope cl C env)) (fun y s₄ => (∃ u, y = .int (f a) u) ∧ Keeps { heap := h, toks := tk, gens := g, drawn := d, os := o } s₄) E' { heap := h, toks := tk, gens := g, drawn := d, os := o }) :
    CompAtR use E prog w A h₀ L env scope cl x [ct] elt Q (.ref r) s := by
  refine ⟨r, ra, rb, rc, t, u, v, n, m, news, pvOf p, fun v y => ∃ a t u, v = Value.int a t ∧ y = Value.int (f a) u, rfl, F, N, hr, hsm, hn, by rw [sizeLine_eq]; omega, hh, quietT_one ?_, ?_, ?_⟩
  · rintro C _ h tk m₃ E' g d o ⟨a, t, rfl, ha⟩ F₃ N₃ hm₃
    exact test C a t h tk m₃ E' g d o ha F₃ N₃ hm₃
  · rintro C _ h tk m₃ E' g d o ⟨a, t, rfl, ha⟩ hp F₃ N₃ hm₃
    exact wpAny_mono (el C a t h tk m₃ E' g d o ha hp F₃ N₃ hm₃) (fun y s₄ z => ⟨by obtain ⟨⟨u, e⟩, _⟩ := z; exact ⟨a, t, u, rfl, e⟩, z.2⟩) fun _ _ z => z
  · rintro D C ys n' h' tk m'' a1 a2 a3 a4 a5 a6 ⟨vs, hv, hP⟩
    exact fin D C ys n' h' tk m'' a1 a2 a3 a4 a5 a6 (paired_pf (fun _ _ => rfl) hv hP)
end
end Mine
namespace Mine
section
variable {w : World} {A : Around} {E : Value → Shared → Prop} {s : Shared} {p : Program} {loose : List Str} {mg mb : Str → Option Value} {h₀ : Heap} {L : Addr} {m : Str → Option Value} {news own : List (Addr × Obj)}
/-- next(chain, default), in a frame that nothing stands around; the ledger has the iterator's object at its head -/
theorem pn2_N {I l : Addr} {oI : Obj} {items : Array Value} {fs : List (Int → Bool)} {v : Value} {env : Env} {i : Nat} {Q : Option Value → Shared → Prop} (hall : AllInt items) (F : Fr h₀ L s.heap m) (N : News h₀ L s.heap ((I, oI) :: news)) (hX₀ : (KF w).In h₀) (T₀ : TopRead p loose mg mb h₀)
    (hA : A.frames = some [env]) (hf : env.frame = some L) (hk : env.scope.kind ≠ .module) (hh : A.handled = none) (hd : A.depth + fs.length + 2 < recursionLimit)
    (hI : IsLI oI l i) (hl : s.heap.IsList l items) (hc : ChainIn ((I, oI) :: news) I fs v) (off : ∀ q ∈ news, q.1 ≠ I)
    (ok : ∀ j a t h' tk oI', i ≤ j → items[j]? = some (.int a t) → Passes fs a → (∀ k, i ≤ k → k < j → ¬ Passes fs (valAt items k)) → IsLI oI' l (j + 1) → Fr h₀ L h' m → News h₀ L h' ((I, oI') :: news) → Q (some (.int a t)) { s with heap := h', toks := tk })
    (stop : ∀ h' tk, (∀ k, i ≤ k → k < items.size → ¬ Passes fs (valAt items k)) → Fr h₀ L h' m → News h₀ L h' news → Q none { s with heap := h', toks := tk }) :
    wpAny (model PP w) A (pyNext v) Q E s := by
  have hmI := N _ List.mem_cons_self
  have hcA := hc.at fun q hq => (N q hq).1
  have hit := hI.at hmI.1
  have hLI : L ≠ I := Ne.symm hmI.2.1
  have hnotI : ∀ b o, h₀.get? b = some o → b ≠ I := by rintro b o e rfl; rw [hmI.2.2] at e; cases e
  refine pyNext_chain hall hX₀ T₀ hmI.2.2 F.keep hA (.cons (outer := []) hk hf F.ns (get_none_of_le (Nat.zero_le _)) trivial) hh hd hit hl hcA ?_ ?_
  · intro j a t h' tk h1 h2 h3 h4 h5 h6
    obtain ⟨oI', hoI', hc', hd'⟩ := h5
    refine ok j a t h' tk oI' h1 h2 h3 h4 ⟨hc', hd'⟩ ⟨F.ns.at' fun o e => h6 L o hLI e, fun b o e => h6 b o (hnotI b o e) (F.keep b o e), F.above⟩ fun q hq => ?_
    rcases List.mem_cons.mp hq with rfl | hq
    · exact ⟨hoI', hmI.2⟩
    · exact ⟨h6 _ _ (off q hq) (N q (List.mem_cons_of_mem _ hq)).1, (N q (List.mem_cons_of_mem _ hq)).2⟩
  · intro e h' tk h1 R
    refine stop h' tk h1 (Fr.raised F hf hmI.2.2 R) fun q hq => ?_
    have hq' := N q (List.mem_cons_of_mem _ hq)
    refine ⟨R.keeps ?_ (off q hq) hq'.1, hq'.2⟩
    simp only [framesOf, List.filterMap_cons, hf, List.filterMap_nil, List.mem_singleton]
    exact hq'.2.1
end
section canon
variable {h₀ h : Heap} {L : Addr} {news : List (Addr × Obj)}
/-- the rest of the ledger, beside the addresses of a list -/
def beside (as : List Addr) (news : List (Addr × Obj)) : List (Addr × Obj) := news.filter fun q => decide (q.1 ∉ as)
theorem beside_off (as : List Addr) : OwnOff (beside as news) as := fun p hp b hb e => by
  have := (List.mem_filter.mp hp).2
  rw [decide_eq_true_eq] at this
  exact this (e ▸ hb)
theorem news_canon (N : News h₀ L h news) {hd : List (Addr × Obj)} (hs : ∀ q ∈ hd, q ∈ news) : ∀ q ∈ news, q ∈ hd ++ beside (hd.map (·.1)) news := fun q hq => by
  by_cases e : q.1 ∈ hd.map (·.1)
  · obtain ⟨q', hq', e'⟩ := List.mem_map.mp e
    have h1 := (N q hq).1
    have h2 := (N q' (hs q' hq')).1
    rw [e'] at h2
    rw [h1] at h2
    have : q = q' := by
      obtain ⟨a, o⟩ := q; obtain ⟨a', o'⟩ := q'
      simp only at e' h2 h1
      cases h2; subst e'; rfl
    rw [this]; exact List.mem_append_left _ hq'
  · exact List.mem_append_right _ (List.mem_filter.mpr ⟨hq, by rw [decide_eq_true_eq]; exact e⟩)
theorem news_back (N : News h₀ L h news) {hd : List (Addr × Obj)} (hs : ∀ q ∈ hd, q ∈ news) : News h₀ L h (hd ++ beside (hd.map (·.1)) news) := fun q hq =>
  (List.mem_append.mp hq).elim (fun h => N q (hs q h)) fun h => N q (List.mem_filter.mp h).1
end canon
section
variable {w : World} {A : Around} {E : Value → Shared → Prop} {s : Shared} {p : Program} {loose : List Str} {mg mb : Str → Option Value} {h₀ : Heap} {L : Addr} {m : Str → Option Value} {news own : List (Addr × Obj)}
theorem allInt_of {us : List Value} {ns : List Int} (h : IntsAre us ns) : AllInt us.toArray := fun j v hv => by
  obtain ⟨t, e⟩ := IntsAre.int_at h j v (by simpa using hv)
  exact ⟨_, t, e⟩
theorem valAt_of {us : List Value} {ns : List Int} (h : IntsAre us ns) {j : Nat} (hj : j < ns.length) : valAt us.toArray j = ns[j] := by
  obtain ⟨t, ht⟩ := h.get j ns[j] (by simp [hj])
  unfold valAt
  simp [ht]

/-- next(left, 0) in the law's frame: the ledger comes back in order -/
theorem law_pn {I R : Addr} {oI : Obj} {us : List Value} {rn : Nat} {ns : List Int} {fs : List (Int → Bool)} {v : Value} {env : Env} {i : Nat} {hd : List (Addr × Obj)} {Q : Option Value → Shared → Prop} (F : Fr h₀ L s.heap m) (N : News h₀ L s.heap news) (hX₀ : (KF w).In h₀) (T₀ : TopRead p loose mg mb h₀)
    (hA : A.frames = some [env]) (hf : env.frame = some L) (hk : env.scope.kind ≠ .module) (hh : A.handled = none) (hdp : A.depth + fs.length + 2 < recursionLimit)
    (hmI : (I, oI) ∈ news) (hI : IsLI oI R i) (hmR : (R, listOf us.toArray rn) ∈ news) (hi : IntsAre us ns) (hc : ChainIn news I fs v) (hs : ∀ q ∈ hd, q ∈ news) (hne : ∀ q ∈ hd, q.1 ≠ I)
    (ok : ∀ (j : Nat) (a : Int) (t : Tok) (h' : Heap) (tk : Nat) (oI' : Obj) (own : List (Addr × Obj)), i ≤ j → ns[j]? = some a → Passes fs a → (∀ k x, i ≤ k → k < j → ns[k]? = some x → ¬ Passes fs x) → IsLI oI' R (j + 1) → OwnOff own (I :: hd.map (·.1)) → Fr h₀ L h' m → News h₀ L h' ((I, oI') :: (hd ++ own)) →
      ChainIn ((I, oI') :: (hd ++ own)) I fs v → Q (some (.int a t)) { s with heap := h', toks := tk })
    (stop : ∀ (h' : Heap) (tk : Nat) (own : List (Addr × Obj)), (∀ k x, i ≤ k → ns[k]? = some x → ¬ Passes fs x) → OwnOff own (hd.map (·.1)) → Fr h₀ L h' m → News h₀ L h' (hd ++ own) → Q none { s with heap := h', toks := tk }) :
    wpAny (model PP w) A (pyNext v) Q E s := by
  have hlen := hi.length
  have hsI : ∀ q ∈ (I, oI) :: hd, q ∈ news := fun q hq => (List.mem_cons.mp hq).elim (fun e => e ▸ hmI) (hs q)
  have NB := news_back N hsI
  have NC := news_canon N hsI
  have offB : OwnOff (beside (((I, oI) :: hd).map (·.1)) news) (I :: hd.map (·.1)) := beside_off _
  generalize beside (((I, oI) :: hd).map (·.1)) news = ob at NB NC offB
  have offI : ∀ q ∈ hd ++ ob, q.1 ≠ I := fun q hq => (List.mem_append.mp hq).elim (hne q) fun h => offB q h I List.mem_cons_self
  refine pn2_N (allInt_of hi) F (news := hd ++ ob) NB hX₀ T₀ hA hf hk hh hdp hI ⟨_, (N _ hmR).1, rfl, rn, rfl⟩ (hc.mono NC) offI ?_ ?_
  · intro j a t h' tk oI' h1 h2 h3 h4 h5 F' N'
    have hj : ns[j]? = some a := by
      have hlt : j < us.length := by have := (Array.getElem?_eq_some_iff.mp h2).1; simpa using this
      obtain ⟨t', ht⟩ := hi.get j (ns[j]'(by omega)) (by simp [show j < ns.length from by omega])
      rw [List.getElem?_toArray, ht] at h2
      have : ns[j]'(by omega) = a := by injection h2 with h2; injection h2
      rw [List.getElem?_eq_getElem (by omega), this]
    refine ok j a t h' tk oI' ob h1 hj h3 (fun k x hk1 hk2 hkx => ?_) h5 offB F' N' ?_
    · have hlt : k < ns.length := by
        rcases Nat.lt_or_ge k ns.length with q | q
        · exact q
        · rw [List.getElem?_eq_none q] at hkx; cases hkx
      have := h4 k hk1 hk2
      rw [valAt_of hi hlt] at this
      rw [List.getElem?_eq_getElem hlt] at hkx; cases hkx
      exact this
    · -- the chain stands as it stood: none of its objects is the iterator
      have move : ∀ q ∈ (I, oI) :: (hd ++ ob), q.1 ≠ I → q ∈ (I, oI') :: (hd ++ ob) := fun q hq hqI => (List.mem_cons.mp hq).elim (fun e => absurd (by rw [e]) hqI) (List.mem_cons_of_mem _)
      have go : ∀ (fs : List (Int → Bool)) (v : Value), ChainIn ((I, oI) :: (hd ++ ob)) I fs v → ChainIn ((I, oI') :: (hd ++ ob)) I fs v := by
        intro fs
        induction fs with
        | nil => intro v e; exact e
        | cons f r ih =>
          rintro v ⟨x, dx, b, S, so, it, e, h1, h2, h3, h4, h5', h6⟩
          have ne : ∀ {a : Addr} {o : Obj}, (a, o) ∈ (I, oI) :: (hd ++ ob) → o.cls ≠ .type "list_iterator" → a ≠ I := by
            rintro a o hm hc rfl
            have e1 := (NB _ hm).1
            have e2 := (NB (a, oI) List.mem_cons_self).1
            rw [e1] at e2; cases e2
            exact hc hI.1
          obtain ⟨es, ep, tt, rfl⟩ := h5'.shape
          exact ⟨x, dx, b, S, _, it, e, move _ h1 (ne h1 (by simp)), move _ h2 (ne h2 (by simp)), move _ h3 (ne h3 (by simp)), move _ h4 (ne h4 (by simp)), h5', ih _ h6⟩
      exact go fs v (hc.mono NC)
  · intro h' tk h1 F' N'
    refine stop h' tk ob (fun k x hk hkx => ?_) (fun q hq b hb => offB q hq b (List.mem_cons_of_mem _ hb)) F' N'
    have hlt : k < ns.length := by
      rcases Nat.lt_or_ge k ns.length with q | q
      · exact q
      · rw [List.getElem?_eq_none q] at hkx; cases hkx
    have := h1 k hk (by simp; omega)
    rw [valAt_of hi hlt] at this
    rw [List.getElem?_eq_getElem hlt] at hkx; cases hkx
    exact this
end
end Mine
namespace Mine
theorem drop_filter_next {p : Int → Bool} {ns : List Int} {i j : Nat} {a : Int} (hij : i ≤ j) (hj : ns[j]? = some a) (hp : p a = true) (hno : ∀ k x, i ≤ k → k < j → ns[k]? = some x → p x = false) :
    (ns.drop i).filter p = a :: (ns.drop (j + 1)).filter p := by
  have hjl : j < ns.length := (List.getElem?_eq_some_iff.mp hj).1
  have ha : ns[j] = a := (List.getElem?_eq_some_iff.mp hj).2
  have e1 : ns.drop i = (ns.drop i).take (j - i) ++ (a :: ns.drop (j + 1)) := by
    conv => lhs; rw [← List.take_append_drop (j - i) (ns.drop i)]
    rw [List.drop_drop, show i + (j - i) = j from by omega, List.drop_eq_getElem_cons hjl, ha]
  rw [e1, List.filter_append, List.filter_cons, if_pos hp]
  have e2 : ((ns.drop i).take (j - i)).filter p = [] := by
    rw [List.filter_eq_nil_iff]
    intro x hx
    obtain ⟨k, hk, e⟩ := List.mem_iff_getElem.mp hx
    have hk' : k < j - i := by rw [List.length_take] at hk; omega
    have hkl : k < ns.length - i := by rw [List.length_take, List.length_drop] at hk; omega
    rw [List.getElem_take, List.getElem_drop] at e
    have := hno (i + k) x (by omega) (by omega) (by rw [List.getElem?_eq_getElem (by omega), e])
    simp [this]
  rw [e2, List.nil_append]
theorem drop_filter_none {p : Int → Bool} {ns : List Int} {i : Nat} (hno : ∀ k x, i ≤ k → ns[k]? = some x → p x = false) : (ns.drop i).filter p = [] := by
  rw [List.filter_eq_nil_iff]
  intro x hx
  obtain ⟨k, hk, e⟩ := List.mem_iff_getElem.mp hx
  have hkl : k < ns.length - i := by rw [List.length_drop] at hk; omega
  rw [List.getElem_drop] at e
  have := hno (i + k) x (by omega) (by rw [List.getElem?_eq_getElem (by omega), e])
  simp [this]
theorem ChainIn.swap {news news' : List (Addr × Obj)} {I : Addr} (k : ∀ p ∈ news, p.2.cls ≠ .type "list" → p.2.cls ≠ .type "list_iterator" → p ∈ news') : ∀ {fs : List (Int → Bool)} {v : Value}, ChainIn news I fs v → ChainIn news' I fs v
  | [], _, e => e
  | _ :: _, _, ⟨x, dx, b, S, so, it, e, h1, h2, h3, h4, h5, h6⟩ => by
    obtain ⟨es, ep, t, rfl⟩ := h5.shape
    exact ⟨x, dx, b, S, _, it, e, k _ h1 (by simp) (by simp), k _ h2 (by simp) (by simp), k _ h3 (by simp) (by simp), k _ h4 (by simp) (by simp), h5, h6.swap k⟩
theorem mapSeq_push (acc : List Value) (c : Nat) (v : Value) : ∃ c', Obj.mapSeq (·.push v) (listOf (List.toArray acc) c) = listOf (List.toArray (acc ++ [v])) c' := by
  have e : (acc ++ [v]).toArray = acc.toArray.push v := by simp
  rw [e]
  exact ⟨_, rfl⟩
section
variable {w : World} {A : Around} {E : Value → Shared → Prop} {s : Shared} {pr : Program} {loose : List Str} {mg mb : Str → Option Value} {h₀ : Heap} {L : Addr} {m : Str → Option Value} {news own : List (Addr × Obj)}
/-- list.extend's loop over the chain -/
theorem ext_loop {p : Int → Bool} {fs : List (Int → Bool)} (hpf : ∀ a, Passes fs a ↔ p a = true) {env : Env} {x l S I : Addr} {us : List Value} {na : Nat} {ns : List Int} {res : Value} {R : Result → Shared → Prop}
    (hX₀ : (KF w).In h₀) (T₀ : TopRead pr loose mg mb h₀) (hA : A.frames = some [env]) (hf : env.frame = some L) (hk : env.scope.kind ≠ .module) (hh : A.handled = none) (hdp : A.depth + fs.length + 2 < recursionLimit)
    (hl : (l, listOf (List.toArray us) na) ∈ news) (hi : IntsAre us ns) (hsz : ns.length ≤ 1000) (hoff : ∀ q ∈ news, q.1 ≠ I ∧ q.1 ≠ S) (hSI : S ≠ I) :
    ∀ (k i : Nat) (s : Shared) (oI : Obj) (acc : List Value) (vs : List Int) (c : Nat), ns.length - i = k → i ≤ ns.length → Fr h₀ L s.heap m → News h₀ L s.heap ((I, oI) :: (S, listOf (List.toArray acc) c) :: news) → IsLI oI l i →
      ChainIn ((I, oI) :: (S, listOf (List.toArray acc) c) :: news) I fs (.ref x) → IntsAre acc vs → vs.length ≤ i →
      (∀ h' tk acc' c', Fr h₀ L h' m → News h₀ L h' ((S, listOf (List.toArray acc') c') :: news) → IntsAre acc' (vs ++ (ns.drop i).filter p) → R (.ok (.ret res)) { s with heap := h', toks := tk }) →
      codeAny (model PP w) A (.builtin "list.extend.loop" ⟨[.ref S, .ref x, res], []⟩) R s := by
  intro k
  induction k using Nat.strongRecOn with
  | ind k ih =>
    intro i s oI acc vs c hk0 hi0 F N hI hc hacc hvl hR
    refine codeAny_builtin PySem.F.entry_extend_loop ?_
    rw [Around.under_plainId PySem.F.plain_extend_loop _]
    show wpAny _ A.in1 (pyNext (.ref x) >>= _) _ _ s
    have hoffS : ∀ q ∈ (S, listOf (List.toArray acc) c) :: news, q.1 ≠ I := fun q hq => (List.mem_cons.mp hq).elim (fun e => by rw [e]; exact hSI) fun h => (hoff q h).1
    refine wpAny_bind (pn2_N (A := A.in1) (allInt_of hi) F N hX₀ T₀ (by rw [Around.in1_frames]; exact hA) hf hk hh hdp hI ⟨_, (N _ (.tail _ (.tail _ hl))).1, rfl, na, rfl⟩ hc hoffS ?_ ?_)
    · intro j a t h' tk oI' h1 h2 h3 h4 h5 F' N'
      have hlen := IntsAre.length hi
      have hjl : j < ns.length := by
        have := (Array.getElem?_eq_some_iff.mp h2).1
        rw [List.size_toArray] at this
        omega
      have hja : ns[j]? = some a := by
        obtain ⟨t', ht⟩ := hi.get j (ns[j]) (by simp [hjl])
        rw [List.getElem?_toArray, ht] at h2
        have : ns[j] = a := by injection h2 with h2; injection h2
        rw [List.getElem?_eq_getElem hjl, this]
      have hno : ∀ k x, i ≤ k → k < j → ns[k]? = some x → p x = false := fun k x hk1 hk2 hkx => by
        have := h4 k hk1 hk2
        rw [valAt_of hi (by omega : k < ns.length), hpf] at this
        rw [List.getElem?_eq_getElem (by omega)] at hkx; cases hkx
        simpa using this
      have hS := N' (S, listOf (List.toArray acc) c) (.tail _ (.head _))
      have hal : acc.length ≤ 1000 := by have := IntsAre.length hacc; omega
      show wpAny _ A.in1 (updateSeq S (·.push (.int a t)) >>= _) _ _ _
      refine wpAny_bind ?_
      obtain ⟨c', hc'⟩ := mapSeq_push acc c (.int a t)
      have hup := Heap.get?_update_self (Obj.mapSeq (·.push (Value.int a t))) hS.1 rfl
      rw [hc'] at hup
      have hsb : Heap.SameBut S h' (h'.update S (Obj.mapSeq (·.push (Value.int a t)))) := Heap.SameBut.update ..
      have F₂ := F'.change hsb hS.2.1 hS.2.2
      have N₂ : News h₀ L (h'.update S (Obj.mapSeq (·.push (Value.int a t)))) ((I, oI') :: (S, listOf (List.toArray (acc ++ [.int a t])) c') :: news) := N'.setAt (own := [(I, oI')]) (fun q hq => by rw [List.mem_singleton.mp hq]; exact Ne.symm hSI) (fun q hq => (hoff q hq).2) hsb hup
      refine wpAny_updateSeq hS.1 rfl (wpAny_pure ⟨plainId_quiet PySem.F.plain_extend_loop _, ih (ns.length - (j + 1)) (by omega) (j + 1) _ oI' (acc ++ [.int a t]) (vs ++ [a]) c' rfl hjl F₂ N₂ h5 (hc.swap fun q hq k1 k2 => ?_) (ints_snoc' hacc) (by rw [List.length_append, List.length_singleton]; omega) fun h'' tk'' acc' c'' F₃ N₃ hacc' => hR h'' tk'' acc' c'' F₃ N₃ ?_⟩) (by rw [sizeLine_eq, List.size_toArray]; omega) (by show (acc.toArray.push _).size ≤ _; rw [Array.size_push, sizeLine_eq, List.size_toArray]; omega)
      · rcases List.mem_cons.mp hq with rfl | hq
        · exact absurd hI.1 k2
        · rcases List.mem_cons.mp hq with rfl | hq
          · exact absurd rfl k1
          · exact .tail _ (.tail _ hq)
      · rw [drop_filter_next h1 hja ((hpf a).mp h3) hno]
        rw [List.append_assoc] at hacc'
        exact hacc'
    · intro h' tk h1 F' N'
      have hlen := IntsAre.length hi
      have hno : ∀ k x, i ≤ k → ns[k]? = some x → p x = false := fun k x hk1 hkx => by
        have hkl : k < ns.length := (List.getElem?_eq_some_iff.mp hkx).1
        have := h1 k hk1 (by rw [List.size_toArray]; omega)
        rw [valAt_of hi hkl, hpf] at this
        rw [List.getElem?_eq_getElem hkl] at hkx; cases hkx
        simpa using this
      refine wpAny_pure (hR h' tk acc c F' N' ?_)
      rw [drop_filter_none hno, List.append_nil]
      exact hacc
end
end Mine
namespace Mine
section
variable {w : World} {A : Around} {E : Value → Shared → Prop} {s : Shared} {pr : Program} {loose : List Str} {mg mb : Str → Option Value} {h₀ : Heap} {L : Addr} {m : Str → Option Value} {news own : List (Addr × Obj)}
theorem hint_ff {x dx b : Addr} {it : Value} {Q : Bool → Shared → Prop} (hX : (KF w).In s.heap) (h1 : s.heap.get? x = some (ffObj dx it b)) (h2 : s.heap.get? dx = some (dictOf [] 0)) (h : Q true s) : wpAny (model PP w) A (Builtin.List.listLengthHint (.ref x)) Q E s := by
  have I := ffInst h1 h2
  have e1 : findIn (KF w) (.ref 47) "__len__" = some none := by kernel_rfl
  have e2 : findIn (KF w) (.ref 47) "__length_hint__" = some none := by kernel_rfl
  unfold Builtin.List.listLengthHint specialOf
  refine wpAny_bind (wpAny_bind (I.type.here ((looks_findIn hX e1).here ?_)))
  refine wpAny_bind (wpAny_bind (I.type.here ((looks_findIn hX e2).here ?_)))
  exact wpAny_pure h
theorem call_list_ff {p : Int → Bool} {fs : List (Int → Bool)} (hpf : ∀ a, Passes fs a ↔ p a = true) {env : Env} {x dx b l I : Addr} {it : Value} {oI : Obj} {us : List Value} {na i : Nat} {ns : List Int} {Q : Value → Shared → Prop}
    (F : Fr h₀ L s.heap m) (N : News h₀ L s.heap ((I, oI) :: news)) (hX₀ : (KF w).In h₀) (T₀ : TopRead pr loose mg mb h₀) (hA : A.frames = some [env]) (hf : env.frame = some L) (hk : env.scope.kind ≠ .module) (hh : A.handled = none) (hdp : A.depth + fs.length + 10 < recursionLimit) (hu : A.units + 80 < cLine)
    (h1 : (x, ffObj dx it b) ∈ news) (h2 : (dx, dictOf [] 0) ∈ news) (hl : (l, listOf (List.toArray us) na) ∈ news) (hi : IntsAre us ns) (hsz : ns.length ≤ 1000) (hoff : ∀ q ∈ news, q.1 ≠ I) (hI : IsLI oI l i) (hin : i ≤ ns.length) (hc : ChainIn ((I, oI) :: news) I fs (.ref x))
    (h : ∀ S h' tk acc' c', Fr h₀ L h' m → News h₀ L h' ((S, listOf (List.toArray acc') c') :: news) → (∀ q ∈ news, q.1 < S) → IntsAre acc' ((ns.drop i).filter p) → Q (.ref S) { s with heap := h', toks := tk }) :
    wpAny (model PP w) A (call (.type "list") [.ref x]) Q E s := by
  refine callType_codes (Q₁ := fun obj s₁ => obj = .ref s.heap.objs.size ∧ s₁ = { s with heap := s.heap.push { cls := .type "list", data := .seq #[] } }) PySem.F.called_list (PySem.F.typeCall_list_1 _) PySem.F.entry_list_init
    (code_list_new _ ⟨rfl, rfl⟩) fun obj s₁ h₁ => ?_
  obtain ⟨rfl, rfl⟩ := h₁
  have hS : (s.heap.push { cls := .type "list", data := .seq #[] }).get? s.heap.objs.size = some { cls := .type "list", data := .seq #[] } := Heap.get?_push_size _ rfl
  refine ⟨⟨_, hS, rfl⟩, PySem.F.args_list_init_2 _ _, ?_⟩
  have N₀ : News h₀ L (s.heap.push { cls := .type "list", data := .seq #[] }) ((s.heap.objs.size, listOf #[] 0) :: (I, oI) :: news) := N.push F _
  have F₀ : Fr h₀ L (s.heap.push { cls := .type "list", data := .seq #[] }) m := F.push _
  have ltS : ∀ q ∈ (I, oI) :: news, q.1 < s.heap.objs.size := fun q hq => Heap.lt_size (N q hq).1
  have hneS : ∀ q ∈ (I, oI) :: news, q.1 ≠ s.heap.objs.size := fun q hq => Nat.ne_of_lt (ltS q hq)
  generalize s.heap.push { cls := .type "list", data := .seq #[] } = H0 at N₀ F₀ hS
  generalize hSz : s.heap.objs.size = S at N₀ hS ltS hneS
  have hS0 := N₀ (S, listOf #[] 0) (.head _)
  show wpAny _ _ (do let old ← Builtin.List.listItems (.ref S); Builtin.List.listUpdate (.ref S) (fun _ => #[]); letGo old.toList.reverse; Builtin.List.listExtendWith (.ref S) (.ref x) .none) _ _ _
  refine wpAny_bind ?_
  unfold Builtin.List.listItems
  refine wpAny_bind (wpAny_seqItems hS rfl (wpAny_pure ?_))
  show wpAny _ _ (updateSeq S (fun _ => #[]) >>= fun _ => letGo (#[] : Array Value).toList.reverse >>= fun _ => Builtin.List.listExtendWith (.ref S) (.ref x) .none) _ _ _
  refine wpAny_bind (wpAny_updateSeq hS rfl ?_)
  obtain ⟨c1, hc1⟩ : ∃ c1, Obj.mapSeq (fun _ => (#[] : Array Value)) (listOf #[] 0) = listOf #[] c1 := ⟨_, rfl⟩
  have up1 := Heap.get?_update_self (Obj.mapSeq (fun _ => (#[] : Array Value))) hS0.1 rfl
  rw [hc1] at up1
  have sb1 : Heap.SameBut S H0 (H0.update S (Obj.mapSeq (fun _ => (#[] : Array Value)))) := Heap.SameBut.update ..
  have F₁ := F₀.change sb1 hS0.2.1 hS0.2.2
  have N₁ : News h₀ L (H0.update S (Obj.mapSeq (fun _ => (#[] : Array Value)))) ((S, listOf #[] c1) :: (I, oI) :: news) := N₀.setAt (own := []) (fun _ hq => nomatch hq) hneS sb1 up1
  generalize H0.update S (Obj.mapSeq (fun _ => (#[] : Array Value))) = H1 at F₁ N₁
  refine wpAny_bind (wpAny_letGo ?_)
  have hx1 := (N₁ (x, ffObj dx it b) (.tail _ (.tail _ h1))).1
  have hx2 := (N₁ (dx, dictOf [] 0) (.tail _ (.tail _ h2))).1
  have hSx : S ≠ x := Ne.symm (hneS _ (.tail _ h1))
  unfold Builtin.List.listExtendWith
  refine wpAny_bind ((ffInst hx1 hx2).type.here ?_)
  have b1 : Builtin.List.listSameRef (.ref S) (.ref x) = false := by simp [Builtin.List.listSameRef, hSx]
  have b2 : (Value.ref 47 == Value.type "list") = false := by decide
  have b3 : (Value.ref 47 == Value.type "tuple") = false := by decide
  simp only [b1, b2, b3, Bool.or_false, Bool.false_eq_true, if_false]
  refine wpAny_bind ((selfIter_ff (hX₀.keeps F₁.keep) (T₀.keeps F₁.keep) hx1 hx2) _ _ _ _ (by show A.depth + 8 < recursionLimit; omega) (by show A.units + 1 + 1 + 64 < cLine; omega) (fun _ _ e => e) fun tk2 H2 hk2 => ?_)
  have F₂ : Fr h₀ L H2 m := F₁.keeps hk2
  have N₂ : News h₀ L H2 ((S, listOf #[] c1) :: (I, oI) :: news) := fun q hq => ⟨hk2 _ _ (N₁ q hq).1, (N₁ q hq).2⟩
  refine wpAny_bind (wpAny_holding (hint_ff (hX₀.keeps F₂.keep) (hk2 _ _ hx1) (hk2 _ _ hx2) ?_))
  refine wpAny_ite_split (fun _ => ?_) (fun hab => absurd rfl hab)
  refine wpAny_bind (wpAny_rule ?_)
  refine wpAny_bind ?_
  show wpAny _ _ (updateSeq S (·.push .none) >>= fun _ => updateSeq S (·.pop)) _ _ _
  have hS2 := N₂ (S, listOf #[] c1) (.head _)
  refine wpAny_bind (wpAny_updateSeq hS2.1 rfl ?_)
  obtain ⟨c2, hc2⟩ : ∃ c2, Obj.mapSeq (·.push Value.none) (listOf #[] c1) = listOf #[Value.none] c2 := ⟨_, rfl⟩
  have up2 := Heap.get?_update_self (Obj.mapSeq (·.push Value.none)) hS2.1 rfl
  rw [hc2] at up2
  have sb2 : Heap.SameBut S H2 (H2.update S (Obj.mapSeq (·.push Value.none))) := Heap.SameBut.update ..
  have F₃ := F₂.change sb2 hS2.2.1 hS2.2.2
  have N₃ : News h₀ L (H2.update S (Obj.mapSeq (·.push Value.none))) ((S, listOf #[Value.none] c2) :: (I, oI) :: news) := N₂.setAt (own := []) (fun _ hq => nomatch hq) hneS sb2 up2
  generalize H2.update S (Obj.mapSeq (·.push Value.none)) = H3 at F₃ N₃
  have hS3 := N₃ (S, listOf #[Value.none] c2) (.head _)
  refine wpAny_updateSeq (hz := by seq_fits) hS3.1 rfl ?_
  obtain ⟨c3, hc3⟩ : ∃ c3, Obj.mapSeq (·.pop) (listOf #[Value.none] c2) = listOf (List.toArray []) c3 := ⟨_, rfl⟩
  have up3 := Heap.get?_update_self (Obj.mapSeq (·.pop)) hS3.1 rfl
  rw [hc3] at up3
  have sb3 : Heap.SameBut S H3 (H3.update S (Obj.mapSeq (·.pop))) := Heap.SameBut.update ..
  have F₄ := F₃.change sb3 hS3.2.1 hS3.2.2
  have N₄ : News h₀ L (H3.update S (Obj.mapSeq (·.pop))) ((S, listOf (List.toArray []) c3) :: (I, oI) :: news) := N₃.setAt (own := []) (fun _ hq => nomatch hq) hneS sb3 up3
  have N₅ : News h₀ L (H3.update S (Obj.mapSeq (·.pop))) ((I, oI) :: (S, listOf (List.toArray []) c3) :: news) := fun q hq => N₄ q (by
    rcases List.mem_cons.mp hq with rfl | hq
    · exact .tail _ (.head _)
    · rcases List.mem_cons.mp hq with rfl | hq
      · exact .head _
      · exact .tail _ (.tail _ hq))
  have hSI : S ≠ I := Ne.symm (hneS _ (.head _))
  refine wpAny_pure ⟨plainId_quiet PySem.F.plain_extend_loop _, ext_loop hpf (news := news) (us := us) (na := na) (ns := ns) hX₀ T₀ (env := env) (L := L) ?_ hf hk ?_ ?_ hl hi hsz (fun q hq => ⟨hoff q hq, hneS q (.tail _ hq)⟩) hSI (ns.length - i) i _ oI [] [] c3 rfl hin F₄ N₅ hI ?_ .nil (Nat.zero_le _) ?_⟩
  · rw [Around.in1_frames]; exact hA
  · exact hh
  · show A.depth + fs.length + 2 < recursionLimit
    omega
  · refine hc.swap fun q hq k1 k2 => ?_
    rcases List.mem_cons.mp hq with rfl | hq
    · exact .head _
    · exact .tail _ (.tail _ hq)
  · intro h' tk acc' c' F' N' hacc
    exact ⟨rfl, h S h' tk acc' c' F' N' (fun q hq => ltS q (.tail _ hq)) (by simpa using hacc)⟩
end
end Mine
namespace Mine
def heaps4 : List Int := [0, 1, 0, 2, 1, 0, 3, 2, 1, 0, 4, 3, 2, 1, 0]
def left4 (vs : List Int) : List Int := heaps4.filter fun h => !decide (h ∈ vs)
def mex4 (vs : List Int) : Int := (left4 vs).headD 0
/-- the row of the place, its first n heaps -/
def row4 (vs : List Int) : Nat → List Bool
  | 0 => []
  | n + 1 => row4 vs n ++ [!(((vs.map fun v => decide ((n : Int) = v)) ++ row4 vs n).contains true)]
def free4 (vs : List Int) (n : Nat) : List Bool := (List.range n).map fun (h : Nat) => !((vs.map fun v => decide ((h : Int) = v)).contains true)
theorem contains_map (vs : List Int) (h : Int) : (vs.map fun v => decide (h = v)).contains true = decide (h ∈ vs) := by
  rw [Bool.eq_iff_iff, List.contains_iff_mem, List.mem_map, decide_eq_true_iff]
  constructor
  · rintro ⟨v, hv, e⟩
    rw [of_decide_eq_true e]; exact hv
  · intro hv
    exact ⟨h, hv, by simp⟩
/-- five booleans: who of 0..4 stands among the values -/
def rowB (b : Nat → Bool) : Nat → List Bool
  | 0 => []
  | n + 1 => rowB b n ++ [!(b n || (rowB b n).contains true)]
theorem row4_eq (vs : List Int) : ∀ n, row4 vs n = rowB (fun h => decide ((h : Int) ∈ vs)) n
  | 0 => rfl
  | n + 1 => by
    rw [row4, rowB, row4_eq vs n]
    congr 2
    rw [Bool.eq_iff_iff]
    simp only [Bool.not_eq_true', List.contains_iff_mem, Bool.or_eq_false_iff]
    rw [← contains_map]
    simp [List.contains_iff_mem]
def leftB (b : Nat → Bool) : List Nat := [0, 1, 0, 2, 1, 0, 3, 2, 1, 0, 4, 3, 2, 1, 0].filter fun h => !b h
def mexB (b : Nat → Bool) : Nat := (leftB b).headD 0
theorem rowB_5 (b : Nat → Bool) (h : b 0 = false ∨ b 1 = false ∨ b 2 = false ∨ b 3 = false ∨ b 4 = false) : rowB b 5 = [0, 1, 2, 3, 4].map (fun i => i == mexB b) ∧ leftB b ≠ [] := by
  have e : rowB b 5 = rowB (fun i => [b 0, b 1, b 2, b 3, b 4].getD i false) 5 := by simp [rowB]
  have e2 : leftB b = leftB (fun i => [b 0, b 1, b 2, b 3, b 4].getD i false) := by simp [leftB, List.filter_cons]
  unfold mexB
  rw [e, e2]
  generalize b 0 = b0 at *
  generalize b 1 = b1 at *
  generalize b 2 = b2 at *
  generalize b 3 = b3 at *
  generalize b 4 = b4 at *
  clear e e2
  revert h
  revert b0 b1 b2 b3 b4
  decide
theorem len_of_mem5 {vs : List Int} (h0 : (0 : Int) ∈ vs) (h1 : (1 : Int) ∈ vs) (h2 : (2 : Int) ∈ vs) (h3 : (3 : Int) ∈ vs) (h4 : (4 : Int) ∈ vs) : 5 ≤ vs.length := by
  have step : ∀ (a : Int) (l : List Int), a ∈ l → (l.erase a).length + 1 = l.length := fun a l h => by
    rw [List.length_erase_of_mem h]
    have := List.length_pos_of_mem h
    omega
  have e0 := step 0 vs h0
  have m1 : (1 : Int) ∈ vs.erase 0 := (List.mem_erase_of_ne (by decide)).mpr h1
  have m2 : (2 : Int) ∈ vs.erase 0 := (List.mem_erase_of_ne (by decide)).mpr h2
  have m3 : (3 : Int) ∈ vs.erase 0 := (List.mem_erase_of_ne (by decide)).mpr h3
  have m4 : (4 : Int) ∈ vs.erase 0 := (List.mem_erase_of_ne (by decide)).mpr h4
  have e1 := step 1 _ m1
  have n2 : (2 : Int) ∈ (vs.erase 0).erase 1 := (List.mem_erase_of_ne (by decide)).mpr m2
  have n3 : (3 : Int) ∈ (vs.erase 0).erase 1 := (List.mem_erase_of_ne (by decide)).mpr m3
  have n4 : (4 : Int) ∈ (vs.erase 0).erase 1 := (List.mem_erase_of_ne (by decide)).mpr m4
  have e2 := step 2 _ n2
  have p3 : (3 : Int) ∈ ((vs.erase 0).erase 1).erase 2 := (List.mem_erase_of_ne (by decide)).mpr n3
  have p4 : (4 : Int) ∈ ((vs.erase 0).erase 1).erase 2 := (List.mem_erase_of_ne (by decide)).mpr n4
  have e3 := step 3 _ p3
  have q4 : (4 : Int) ∈ (((vs.erase 0).erase 1).erase 2).erase 3 := (List.mem_erase_of_ne (by decide)).mpr p4
  have e4 := step 4 _ q4
  omega
end Mine
namespace Mine
/-- the places within reach of k -/
def backP (ns : List Int) (k : Nat) (y : Int) : Bool := decide (y ≤ (k : Int)) && decide (((ns.getD k 0).fdiv (2 ^ (y - 1).toNat)).fmod 2 = 1)
def backT (ns : List Int) (k : Nat) : List Int := ((rangeInts 1 1 4).filter (backP ns k)).map fun y => (k : Int) - y
def reachV (ns vals : List Int) (k : Nat) : List Int := (backT ns k).map fun j => vals.getD j.toNat 0
def valsT (ns : List Int) : Nat → List Int
  | 0 => []
  | i + 1 => valsT ns i ++ [mex4 (reachV ns (valsT ns i) i)]
theorem valsT_len (ns : List Int) : ∀ i, (valsT ns i).length = i
  | 0 => rfl
  | i + 1 => by rw [valsT, List.length_append, valsT_len ns i]; rfl
theorem back_len (ns : List Int) (k : Nat) : (backT ns k).length ≤ 4 := by
  unfold backT
  rw [List.length_map]
  exact Nat.le_trans (List.length_filter_le _ _) (by rw [rangeInts_length]; decide)
theorem back_mem {ns : List Int} {k : Nat} {j : Int} (h : j ∈ backT ns k) : 0 ≤ j ∧ j < k := by
  obtain ⟨y, hy, rfl⟩ := List.mem_map.mp h
  obtain ⟨h1, h2⟩ := List.mem_filter.mp hy
  have h3 := mem_rangeInts h1
  unfold backP at h2
  rw [Bool.and_eq_true] at h2
  have h4 := of_decide_eq_true h2.1
  omega
end Mine
namespace Mine
def rowVals (v : Int) : List Value := ([0, 1, 2, 3, 4] : List Int).map fun h => Value.bool (decide (h = v))
def RowsAt (own : List (Addr × Obj)) (rows : List Addr) (vals : List Int) : Prop := ∀ (j : Nat) (a : Addr) (v : Int), rows[j]? = some a → vals[j]? = some v → ∃ n, (a, listOf (List.toArray (rowVals v)) n) ∈ own
theorem RowsAt.mono {own own' : List (Addr × Obj)} {rows : List Addr} {vals : List Int} (h : RowsAt own rows vals) (k : ∀ p ∈ own, p ∈ own') : RowsAt own' rows vals := fun j a v h1 h2 => by
  obtain ⟨n, hn⟩ := h j a v h1 h2
  exact ⟨n, k _ hn⟩
inductive J4 (ns : List Int) (I VA LO HE NU cN cV cL cK cR cF cH : Addr) (oHE oNU oN oV oL : Obj) : Nat → (Str → Option Value) → List (Addr × Obj) → Prop
  | mk {i k : Nat} {m : Str → Option Value} {vvs : List Value} {rows : List Addr} {vn ln : Nat} {oK oR oF oH : Obj} {own : List (Addr × Obj)} {vK vR vF vH : Option Value} : k = ns.length - i → i ≤ ns.length → m "heaps" = some (.ref HE) →
      OwnOff own [I, VA, LO, HE, NU, cN, cV, cL, cK, cR, cF, cH] → IntsAre vvs (valsT ns i) → rows.length = i → RowsAt own rows (valsT ns i) → oK.data = .cell vK → oR.data = .cell vR → oF.data = .cell vF → oH.data = .cell vH →
      J4 ns I VA LO HE NU cN cV cL cK cR cF cH oHE oNU oN oV oL k m ((I, rangeIterObj (i : Int) ((ns.length : Int) - i) 1) :: (LO, listOf (List.toArray (rows.map Value.ref)) ln) :: (VA, listOf (List.toArray vvs) vn) :: (HE, oHE) :: (NU, oNU) :: (cH, oH) :: (cF, oF) :: (cR, oR) :: (cK, oK) :: (cL, oL) :: (cV, oV) :: (cN, oN) :: own)
end Mine
namespace Mine
section
variable {prog : Program} {w : World} {A : Around} {E : Value → Shared → Prop} {s : Shared} {h₀ : Heap} {L : Addr} {m : Str → Option Value} {news own : List (Addr × Obj)}
theorem law4_for {env : Env} {x : Str} {body : List Stmt} {Q : Flow → Shared → Prop} {ns : List Int} {nn : Int} {I LO VA HE NU cH cF cR cK cL cV cN : Addr} {oHE oNU oH oF oR oK oL oV oN : Obj} {r x1 x2 x3 : Addr × Obj} {vK vR vF vH : Option Value}
    (F : Fr h₀ L s.heap m) (N : News h₀ L s.heap [(I, rangeIterObj 0 (Builtin.Range.rangeSize 0 nn 1) 1), r, (LO, listOf #[] 0), (VA, listOf #[] 0), (HE, oHE), (NU, oNU), x1, x2, x3, (cH, oH), (cF, oF), (cR, oR), (cK, oK), (cL, oL), (cV, oV), (cN, oN)])
    (hnn : nn = (ns.length : Int)) (hh : A.handled = none) (hm : m "heaps" = some (.ref HE)) (hoff : OwnOff [r, x1, x2, x3] [I, VA, LO, HE, NU, cN, cV, cL, cK, cR, cF, cH]) (hK : oK.data = .cell vK) (hR : oR.data = .cell vR) (hF : oF.data = .cell vF) (hH : oH.data = .cell vH)
    (hne : LO ≠ I ∧ VA ≠ I ∧ HE ≠ I ∧ NU ≠ I ∧ cH ≠ I ∧ cF ≠ I ∧ cR ≠ I ∧ cK ≠ I ∧ cL ≠ I ∧ cV ≠ I ∧ cN ≠ I)
    (turn : ∀ (i : Nat) (a : Int) (m : Str → Option Value) (vvs : List Value) (rows : List Addr) (vn ln : Nat) (oK oR oF oH : Obj) (own : List (Addr × Obj)) (vK vR vF vH : Option Value) (t : Tok) (h : Heap) (tk : Nat), ns[i]? = some a → i < ns.length → m "heaps" = some (.ref HE) →
      OwnOff own [I, VA, LO, HE, NU, cN, cV, cL, cK, cR, cF, cH] → IntsAre vvs (valsT ns i) → rows.length = i → RowsAt own rows (valsT ns i) → oK.data = .cell vK → oR.data = .cell vR → oF.data = .cell vF → oH.data = .cell vH → Fr h₀ L h m →
      News h₀ L h ((I, rangeIterObj ((i : Int) + 1) ((ns.length : Int) - i - 1) 1) :: (LO, listOf (List.toArray (rows.map Value.ref)) ln) :: (VA, listOf (List.toArray vvs) vn) :: (HE, oHE) :: (NU, oNU) :: (cH, oH) :: (cF, oF) :: (cR, oR) :: (cK, oK) :: (cL, oL) :: (cV, oV) :: (cN, oN) :: own) →
      wpAny (model prog w) A (storeName env x (.int i t)) (fun _ s₃ => wpAny (model prog w) A (execs body env) (FPost h₀ L (J4 ns I VA LO HE NU cN cV cL cK cR cF cH oHE oNU oN oV oL) (ns.length - i) s Q) E s₃) E { s with heap := h, toks := tk })
    (done : ∀ (m : Str → Option Value) (news : List (Addr × Obj)) (h : Heap) (tk : Nat), Fr h₀ L h m → News h₀ L h news → Q .next { s with heap := h, toks := tk }) :
    ForAt prog w A E h₀ L env x body Q (.ref I) s := by
  subst hnn
  have hsz : Builtin.Range.rangeSize 0 (ns.length : Int) 1 = (ns.length : Int) - (0 : Nat) := by rw [rangeSize_one]; split <;> omega
  rw [hsz] at N
  refine ⟨J4 ns I VA LO HE NU cN cV cL cK cR cF cH oHE oNU oN oV oL, ns.length, m, (I, rangeIterObj (0 : Nat) ((ns.length : Int) - (0 : Nat)) 1) :: (LO, listOf (List.toArray (([] : List Addr).map Value.ref)) 0) :: (VA, listOf (List.toArray []) 0) :: (HE, oHE) :: (NU, oNU) :: (cH, oH) :: (cF, oF) :: (cR, oR) :: (cK, oK) :: (cL, oL) :: (cV, oV) :: (cN, oN) :: [r, x1, x2, x3], F, ?_, .mk (by omega) (Nat.zero_le _) hm hoff .nil rfl (fun j a v h => by simp at h) hK hR hF hH, ?_⟩
  · intro p hp
    refine N p ?_
    simp only [List.mem_cons, List.not_mem_nil, or_false] at hp ⊢
    rcases hp with h | h | h | h | h | h | h | h | h | h | h | h | h | h | h | h
    all_goals first | (subst h; simp [List.map]; done) | simp_all
  · intro k m' news h tk J F' N'
    cases J with
    | mk a1 a2 a3 a4 a5 a6 a7 a8 a9 a10 a11 =>
      rename_i i vvs rows vn ln oK oR oF oH own vK vR vF vH
      subst a1
      refine next_range_N (pre := []) F' N' ⟨(fun _ hp => nomatch hp), ?_⟩ hh ?_ ?_
      · intro p hp
        simp only [List.mem_cons] at hp
        rcases hp with rfl | rfl | rfl | rfl | rfl | rfl | rfl | rfl | rfl | rfl | rfl | hp
        · exact hne.1
        · exact hne.2.1
        · exact hne.2.2.1
        · exact hne.2.2.2.1
        · exact hne.2.2.2.2.1
        · exact hne.2.2.2.2.2.1
        · exact hne.2.2.2.2.2.2.1
        · exact hne.2.2.2.2.2.2.2.1
        · exact hne.2.2.2.2.2.2.2.2.1
        · exact hne.2.2.2.2.2.2.2.2.2.1
        · exact hne.2.2.2.2.2.2.2.2.2.2
        · exact a4 p hp I (.head _)
      · intro hpos h' tk' t F'' N''
        have hlt : i < ns.length := by omega
        exact turn i ns[i] m' vvs rows vn ln oK oR oF oH own vK vR vF vH t h' tk' (List.getElem?_eq_getElem hlt) hlt a3 a4 a5 a6 a7 a8 a9 a10 a11 F'' N''
      · intro _ h' F'' N''
        exact done m' _ h' tk F'' N''
end
end Mine
namespace Mine
def Halt (P : Prop) : Prop := P
theorem haltI {P : Prop} (h : Halt P) : P := h
def bOf (vs : List Int) (h : Nat) : Bool := decide ((h : Int) ∈ vs)
theorem left4_eq (vs : List Int) : left4 vs = (leftB (bOf vs)).map fun (n : Nat) => (n : Int) := by
  have e : heaps4 = ([0, 1, 0, 2, 1, 0, 3, 2, 1, 0, 4, 3, 2, 1, 0] : List Nat).map fun (n : Nat) => (n : Int) := rfl
  unfold left4 leftB
  rw [e, List.filter_map]
  rfl
theorem free_of {vs : List Int} (h : vs.length ≤ 4) : bOf vs 0 = false ∨ bOf vs 1 = false ∨ bOf vs 2 = false ∨ bOf vs 3 = false ∨ bOf vs 4 = false := by
  refine Classical.byContradiction fun hn => ?_
  simp only [not_or, Bool.not_eq_false] at hn
  obtain ⟨h0, h1, h2, h3, h4⟩ := hn
  unfold bOf at h0 h1 h2 h3 h4
  have := len_of_mem5 (of_decide_eq_true h0) (of_decide_eq_true h1) (of_decide_eq_true h2) (of_decide_eq_true h3) (of_decide_eq_true h4)
  omega
theorem mex4_eq {vs : List Int} (h : vs.length ≤ 4) : mex4 vs = (mexB (bOf vs) : Int) := by
  have h1 := (rowB_5 (bOf vs) (free_of h)).2
  unfold mex4 mexB
  rw [left4_eq]
  cases e : leftB (bOf vs) with
  | nil => exact absurd e h1
  | cons a r => rfl
theorem left4_cons {vs : List Int} (h : vs.length ≤ 4) : ∃ r, left4 vs = mex4 vs :: r := by
  have h1 := (rowB_5 (bOf vs) (free_of h)).2
  unfold mex4
  rw [left4_eq]
  cases e : leftB (bOf vs) with
  | nil => exact absurd e h1
  | cons a r => exact ⟨_, rfl⟩
theorem mexB_lt {b : Nat → Bool} (h : leftB b ≠ []) : mexB b < 5 := by
  have hm : mexB b ∈ leftB b := by
    unfold mexB
    cases e : leftB b with
    | nil => exact absurd e h
    | cons a r => simp
  have := (List.mem_filter.mp hm).1
  simp only [List.mem_cons, List.not_mem_nil, or_false] at this
  omega
theorem mex4_range {vs : List Int} (h : vs.length ≤ 4) : 0 ≤ mex4 vs ∧ mex4 vs < 5 := by
  rw [mex4_eq h]
  have := mexB_lt (rowB_5 (bOf vs) (free_of h)).2
  omega
theorem row4_5 {vs : List Int} (h : vs.length ≤ 4) : (row4 vs 5).map Value.bool = rowVals (mex4 vs) := by
  have h1 := (rowB_5 (bOf vs) (free_of h)).1
  rw [row4_eq, mex4_eq h]
  show (rowB (bOf vs) 5).map Value.bool = _
  rw [h1]
  unfold rowVals
  have : ∀ i : Nat, (i == mexB (bOf vs)) = decide ((i : Int) = (mexB (bOf vs) : Int)) := fun i => by
    rw [Bool.eq_iff_iff, beq_iff_eq, decide_eq_true_iff, Int.ofNat_inj]
  simp only [List.map_cons, List.map_nil, this]
  rfl
theorem row4_pick {vs : List Int} (h : vs.length ≤ 4) : (rangeInts 0 1 5).filter (fun a => (row4 vs 5).getD a.toNat false) = [mex4 vs] := by
  have h1 := (rowB_5 (bOf vs) (free_of h)).1
  have h2 := mexB_lt (rowB_5 (bOf vs) (free_of h)).2
  rw [row4_eq, mex4_eq h]
  show (rangeInts 0 1 5).filter (fun a => (rowB (bOf vs) 5).getD a.toNat false) = _
  rw [h1]
  generalize mexB (bOf vs) = n at h2
  have : n = 0 ∨ n = 1 ∨ n = 2 ∨ n = 3 ∨ n = 4 := by omega
  rcases this with rfl | rfl | rfl | rfl | rfl <;> rfl
theorem free4_pick (vs : List Int) : heaps4.filter (fun a => (free4 vs 5).getD a.toNat false) = left4 vs := by
  unfold left4
  refine List.filter_congr fun a ha => ?_
  have e : ∀ n : Nat, n < 5 → (free4 vs 5).getD n false = !decide ((n : Int) ∈ vs) := fun n hn => by
    unfold free4
    rw [List.getD_eq_getElem?_getD, List.getElem?_map, List.getElem?_range hn, Option.map_some, Option.getD_some, contains_map]
  have h5 : 0 ≤ a ∧ a < 5 := by
    simp only [heaps4, List.mem_cons, List.not_mem_nil, or_false] at ha
    omega
  rw [e a.toNat (by omega), Int.toNat_of_nonneg h5.1]
theorem left_abs {vs : List Int} {acc : List Value} (h : vs.length ≤ 4) (ha : IntsAre acc (left4 vs)) : ∃ t racc, acc = .int (mex4 vs) t :: racc := by
  obtain ⟨r, e⟩ := left4_cons h
  rw [e] at ha
  cases ha with
  | cons n t h2 => exact ⟨t, _, rfl⟩
theorem row4_len (vs : List Int) : ∀ n, (row4 vs n).length = n
  | 0 => rfl
  | n + 1 => by rw [row4, List.length_append, row4_len vs n]; rfl
theorem free4_len (vs : List Int) (n : Nat) : (free4 vs n).length = n := by unfold free4; simp
theorem free4_succ (vs : List Int) (n : Nat) : free4 vs (n + 1) = free4 vs n ++ [!((vs.map fun v => decide ((n : Int) = v)).contains true)] := by
  unfold free4
  rw [List.range_succ, List.map_append]; rfl
theorem reach_len (ns vals : List Int) (k : Nat) : (reachV ns vals k).length ≤ 4 := by
  unfold reachV; rw [List.length_map]; exact back_len ns k
section
variable {w : World} {A : Around} {E : Value → Shared → Prop} {s : Shared} {pr : Program} {loose : List Str} {mg mb : Str → Option Value} {h₀ : Heap} {L : Addr} {m : Str → Option Value}
theorem list_ff1 {env : Env} {I x d b S l : Addr} {so : Obj} {rest : List (Addr × Obj)} {bs : List Int} {us : List Value} {na : Nat} {ns : List Int} {Q : Value → Shared → Prop}
    (F : Fr h₀ L s.heap m) (N : News h₀ L s.heap ((I, { cls := .type "list_iterator", data := .fields #[.ref l, .int 0 0] }) :: (x, { cls := Value.ref 47, dict := some d, data := .plain, slots := #[some (Value.ref b), some (Value.ref I)] }) :: (d, dictOf [] 0) :: (b, boundHas S) :: (S, so) :: rest))
    (hX₀ : (KF w).In h₀) (T₀ : TopRead pr loose mg mb h₀) (hA : A.frames = some [env]) (hf : env.frame = some L) (hk : env.scope.kind ≠ .module) (hh : A.handled = none) (hdp : A.depth + 11 < recursionLimit) (hu : A.units + 80 < cLine)
    (hso : IsHas so fun k => decide (k ∈ bs)) (hl : (l, listOf (List.toArray us) na) ∈ rest) (hi : IntsAre us ns) (hsz : ns.length ≤ 1000)
    (hoff : ∀ q ∈ (x, ({ cls := Value.ref 47, dict := some d, data := .plain, slots := #[some (Value.ref b), some (Value.ref I)] } : Obj)) :: (d, dictOf [] 0) :: (b, boundHas S) :: (S, so) :: rest, q.1 ≠ I)
    (h : ∀ R h' tk acc' c', Fr h₀ L h' m → News h₀ L h' ((R, listOf (List.toArray acc') c') :: (x, { cls := Value.ref 47, dict := some d, data := .plain, slots := #[some (Value.ref b), some (Value.ref I)] }) :: (d, dictOf [] 0) :: (b, boundHas S) :: (S, so) :: rest) →
      (∀ q ∈ (x, ({ cls := Value.ref 47, dict := some d, data := .plain, slots := #[some (Value.ref b), some (Value.ref I)] } : Obj)) :: (d, dictOf [] 0) :: (b, boundHas S) :: (S, so) :: rest, q.1 < R) → IntsAre acc' (ns.filter fun k => !decide (k ∈ bs)) → Q (.ref R) { s with heap := h', toks := tk }) :
    wpAny (model PP w) A (call (.type "list") [.ref x]) Q E s := by
  refine call_list_ff (fs := [fun k => decide (k ∈ bs)]) (p := fun k => !decide (k ∈ bs)) (i := 0) (fun a => by simp [Passes]) F N hX₀ T₀ hA hf hk hh (by simp only [List.length_singleton]; omega) hu (.head _) (.tail _ (.head _)) (.tail _ (.tail _ (.tail _ (.tail _ hl)))) hi hsz hoff ⟨rfl, rfl⟩ (Nat.zero_le _) ?_ ?_
  · exact ⟨x, d, b, S, so, .ref I, rfl, .tail _ (.head _), .tail _ (.tail _ (.head _)), .tail _ (.tail _ (.tail _ (.head _))), .tail _ (.tail _ (.tail _ (.tail _ (.head _)))), hso, rfl⟩
  · intro R h' tk acc' c' F' N' hlt hacc
    exact h R h' tk acc' c' F' N' hlt hacc
end
end Mine
namespace Mine
def boolVs (bs : List Bool) : List Value := bs.map Value.bool
theorem boolVs_len (bs : List Bool) : (boolVs bs).length = bs.length := by unfold boolVs; simp
theorem boolVs_snoc (bs : List Bool) (b : Bool) : boolVs bs ++ [Value.bool b] = boolVs (bs ++ [b]) := by unfold boolVs; simp
def led5 (RO FR cH R D I LO VA HE NU cF cR cK cL cV cN : Addr) (oRO oFR oH oR oD oI oLO oVA oHE oNU oF oRc oK oL oV oN : Obj) (own : List (Addr × Obj)) : List (Addr × Obj) :=
  (RO, oRO) :: (FR, oFR) :: (cH, oH) :: (R, oR) :: (D, oD) :: (I, oI) :: (LO, oLO) :: (VA, oVA) :: (HE, oHE) :: (NU, oNU) :: (cF, oF) :: (cR, oRc) :: (cK, oK) :: (cL, oL) :: (cV, oV) :: (cN, oN) :: own
inductive J5 (vs : List Int) (rows : List Addr) (vals : List Int) (vHE : Value) (I2 RO FR cH R D I LO VA HE NU cF cR cK cL cV cN : Addr) (oR oD oI oLO oVA oHE oNU oF oRc oK oL oV oN : Obj) : Nat → (Str → Option Value) → List (Addr × Obj) → Prop
  | mk {n k : Nat} {m : Str → Option Value} {rn fn : Nat} {oH : Obj} {own : List (Addr × Obj)} {vH : Option Value} : k = 5 - n → n ≤ 5 → m "heaps" = some vHE → m "back" = some (.ref D) → m "left" = some (.ref R) →
      OwnOff own [I2, RO, FR, cH, R, D, I, LO, VA, HE, NU, cF, cR, cK, cL, cV, cN] → RowsAt own rows vals → oH.data = .cell vH →
      J5 vs rows vals vHE I2 RO FR cH R D I LO VA HE NU cF cR cK cL cV cN oR oD oI oLO oVA oHE oNU oF oRc oK oL oV oN k m
        ((I2, rangeIterObj (n : Int) (5 - (n : Int)) 1) :: led5 RO FR cH R D I LO VA HE NU cF cR cK cL cV cN (listOf (List.toArray (boolVs (row4 vs n))) rn) (listOf (List.toArray (boolVs (free4 vs n))) fn) oH oR oD oI oLO oVA oHE oNU oF oRc oK oL oV oN own)
theorem allNe_mem {d : Addr} : ∀ {l : List (Addr × Obj)}, AllNe d l → ∀ p ∈ l, p.1 ≠ d
  | [], _, p, hp => nomatch hp
  | q :: r, h, p, hp => by
    rcases List.mem_cons.mp hp with rfl | hp
    · exact h.1
    · exact allNe_mem h.2 p hp
section
variable {prog : Program} {w : World} {A : Around} {E : Value → Shared → Prop} {s : Shared} {h₀ : Heap} {L : Addr} {m : Str → Option Value} {own : List (Addr × Obj)}
theorem law4_in {env : Env} {x : Str} {body : List Stmt} {Q : Flow → Shared → Prop} {vs vals : List Int} {rows : List Addr} {vHE : Value} {I2 RO FR cH R D I LO VA HE NU cF cR cK cL cV cN : Addr} {oH oR oD oI oLO oVA oHE oNU oF oRc oK oL oV oN : Obj} {g1 g2 g3 g4 g5 g6 g7 : Addr × Obj} {vH : Option Value}
    (F : Fr h₀ L s.heap m) (N : News h₀ L s.heap ((I2, rangeIterObj 0 (Builtin.Range.rangeSize 0 5 1) 1) :: g1 :: (FR, listOf #[] 0) :: (RO, listOf #[] 0) :: (R, oR) :: g2 :: g3 :: g4 :: g5 :: g6 :: (D, oD) :: g7 :: (I, oI) :: (LO, oLO) :: (VA, oVA) :: (HE, oHE) :: (NU, oNU) :: (cH, oH) :: (cF, oF) :: (cR, oRc) :: (cK, oK) :: (cL, oL) :: (cV, oV) :: (cN, oN) :: own))
    (hh : A.handled = none) (hm : m "heaps" = some vHE) (hm2 : m "back" = some (.ref D)) (hm3 : m "left" = some (.ref R)) (hrows : RowsAt own rows vals) (hH : oH.data = .cell vH)
    (hoff : OwnOff own [I, VA, LO, HE, NU, cN, cV, cL, cK, cR, cF, cH]) (o1 : ∀ p ∈ own, p.1 ≠ I2) (o2 : ∀ p ∈ own, p.1 ≠ RO) (o3 : ∀ p ∈ own, p.1 ≠ FR) (o4 : ∀ p ∈ own, p.1 ≠ R) (o5 : ∀ p ∈ own, p.1 ≠ D)
    (hne : RO ≠ I2 ∧ FR ≠ I2 ∧ cH ≠ I2 ∧ R ≠ I2 ∧ D ≠ I2 ∧ I ≠ I2 ∧ LO ≠ I2 ∧ VA ≠ I2 ∧ HE ≠ I2 ∧ NU ≠ I2 ∧ cF ≠ I2 ∧ cR ≠ I2 ∧ cK ≠ I2 ∧ cL ≠ I2 ∧ cV ≠ I2 ∧ cN ≠ I2)
    (turn : ∀ (n : Nat) (m : Str → Option Value) (rn fn : Nat) (oH : Obj) (own : List (Addr × Obj)) (vH : Option Value) (t : Tok) (h : Heap) (tk : Nat), n < 5 → m "heaps" = some vHE → m "back" = some (.ref D) → m "left" = some (.ref R) →
      OwnOff own [I2, RO, FR, cH, R, D, I, LO, VA, HE, NU, cF, cR, cK, cL, cV, cN] → RowsAt own rows vals → oH.data = .cell vH → Fr h₀ L h m →
      News h₀ L h ((I2, rangeIterObj ((n : Int) + 1) (5 - (n : Int) - 1) 1) :: led5 RO FR cH R D I LO VA HE NU cF cR cK cL cV cN (listOf (List.toArray (boolVs (row4 vs n))) rn) (listOf (List.toArray (boolVs (free4 vs n))) fn) oH oR oD oI oLO oVA oHE oNU oF oRc oK oL oV oN own) →
      wpAny (model prog w) A (storeName env x (.int n t)) (fun _ s₃ => wpAny (model prog w) A (execs body env) (FPost h₀ L (J5 vs rows vals vHE I2 RO FR cH R D I LO VA HE NU cF cR cK cL cV cN oR oD oI oLO oVA oHE oNU oF oRc oK oL oV oN) (5 - n) s Q) E s₃) E { s with heap := h, toks := tk })
    (done : ∀ (m : Str → Option Value) (rn fn : Nat) (oH : Obj) (own : List (Addr × Obj)) (vH : Option Value) (h : Heap) (tk : Nat), m "heaps" = some vHE → m "back" = some (.ref D) → m "left" = some (.ref R) →
      OwnOff own [I2, RO, FR, cH, R, D, I, LO, VA, HE, NU, cF, cR, cK, cL, cV, cN] → RowsAt own rows vals → oH.data = .cell vH → Fr h₀ L h m →
      News h₀ L h (led5 RO FR cH R D I LO VA HE NU cF cR cK cL cV cN (listOf (List.toArray (boolVs (row4 vs 5))) rn) (listOf (List.toArray (boolVs (free4 vs 5))) fn) oH oR oD oI oLO oVA oHE oNU oF oRc oK oL oV oN own) → Q .next { s with heap := h, toks := tk }) :
    ForAt prog w A E h₀ L env x body Q (.ref I2) s := by
  have hsz : Builtin.Range.rangeSize 0 5 1 = 5 - ((0 : Nat) : Int) := by rw [rangeSize_one]; split <;> omega
  rw [hsz] at N
  have hs : ∀ q ∈ (I2, rangeIterObj ((0 : Nat) : Int) (5 - ((0 : Nat) : Int)) 1) :: led5 RO FR cH R D I LO VA HE NU cF cR cK cL cV cN (listOf (List.toArray (boolVs (row4 vs 0))) 0) (listOf (List.toArray (boolVs (free4 vs 0))) 0) oH oR oD oI oLO oVA oHE oNU oF oRc oK oL oV oN [],
      q ∈ (I2, rangeIterObj 0 (5 - ((0 : Nat) : Int)) 1) :: g1 :: (FR, listOf #[] 0) :: (RO, listOf #[] 0) :: (R, oR) :: g2 :: g3 :: g4 :: g5 :: g6 :: (D, oD) :: g7 :: (I, oI) :: (LO, oLO) :: (VA, oVA) :: (HE, oHE) :: (NU, oNU) :: (cH, oH) :: (cF, oF) :: (cR, oRc) :: (cK, oK) :: (cL, oL) :: (cV, oV) :: (cN, oN) :: own := by
    intro q hq
    simp only [led5, List.mem_cons, List.not_mem_nil, or_false] at hq ⊢
    have e1 : listOf (List.toArray (boolVs (row4 vs 0))) 0 = listOf #[] 0 := rfl
    have e2 : listOf (List.toArray (boolVs (free4 vs 0))) 0 = listOf #[] 0 := rfl
    rw [e1, e2] at hq
    rcases hq with h | h | h | h | h | h | h | h | h | h | h | h | h | h | h | h | h <;> subst h <;> simp
  have N2 := news_back N hs
  refine ⟨J5 vs rows vals vHE I2 RO FR cH R D I LO VA HE NU cF cR cK cL cV cN oR oD oI oLO oVA oHE oNU oF oRc oK oL oV oN, 5, m, _, F, N2, ?_, ?_⟩
  · refine J5.mk (n := 0) (rn := 0) (fn := 0) (own := _) rfl (by omega) hm hm2 hm3 ?_ ?_ hH
    · exact beside_off _
    · refine hrows.mono fun p hp => ?_
      refine List.mem_filter.mpr ⟨?_, ?_⟩
      · simp only [List.mem_cons]
        repeat (first | exact .inr (by assumption) | apply Or.inr)
      · rw [decide_eq_true_eq]
        have h12 := hoff p hp
        simp only [List.mem_cons, List.not_mem_nil, or_false, forall_eq_or_imp, forall_eq] at h12
        obtain ⟨a1, a2, a3, a4, a5, a6, a7, a8, a9, a10, a11, a12⟩ := h12
        simp only [led5, List.map_cons, List.map_nil, List.mem_cons, List.not_mem_nil, or_false, not_or]
        exact ⟨o1 p hp, o2 p hp, o3 p hp, a12, o4 p hp, o5 p hp, a1, a3, a2, a4, a5, a11, a10, a9, a8, a7, a6⟩
  · intro k m' news h tk J F' N'
    cases J with
    | mk a1 a2 a3 a4 a5 a6 a7 a8 =>
      rename_i n rn fn oH own vH
      subst a1
      refine next_range_N (pre := []) F' N' ⟨(fun _ hp => nomatch hp), ?_⟩ hh ?_ ?_
      · intro p hp
        obtain ⟨b1, b2, b3, b4, b5, b6, b7, b8, b9, b10, b11, b12, b13, b14, b15, b16⟩ := hne
        simp only [led5, List.mem_cons] at hp
        rcases hp with rfl | rfl | rfl | rfl | rfl | rfl | rfl | rfl | rfl | rfl | rfl | rfl | rfl | rfl | rfl | rfl | hp
        all_goals first | assumption | exact a6 p hp I2 (.head _)
      · intro hpos h' tk' t F'' N''
        have hlt : n < 5 := by omega
        exact turn n m' rn fn oH own vH t h' tk' hlt a3 a4 a5 a6 a7 a8 F'' N''
      · intro hle h' F'' N''
        have hn : n = 5 := by omega
        subst hn
        exact done m' rn fn oH own vH h' tk a3 a4 a5 a6 a7 a8 F'' N''
end
end Mine
namespace Mine
theorem paired_bool {f : Int → Bool} {vs : List Value} {ns : List Int} (h : IntsAre vs ns) : ∀ {ys : List Value}, Paired (fun v y => ∃ a t, v = Value.int a t ∧ y = Value.bool (f a)) (vs.filter fun _ => true) ys → ys = boolVs (ns.map f) := by
  induction h with
  | nil => intro ys hy; cases hy; rfl
  | cons n t _ ih =>
    intro ys hy
    rw [List.filter_cons, if_pos rfl] at hy
    cases hy with
    | cons e r =>
      obtain ⟨a, t', e1, e2⟩ := e
      cases e1; subst e2
      rw [ih r]; rfl
section
variable {prog : Program} {w : World} {A : Around} {E : Value → Shared → Prop} {s : Shared} {h₀ : Heap} {L : Addr} {m : Str → Option Value} {news : List (Addr × Obj)}
/-- [elt for x in l], l of ints, elt a bool -/
theorem comp_boolU (f : Int → Bool) {use : Option (Value → Sem Unit)} {env : Env} {scope : Scope} {cl : List (Str × Addr)} {x : Str} {elt : PySem.Expr} {Q : Value → Shared → Prop} {ax : Addr} {vs : List Value} {na : Nat} {ns : List Int}
    (F : Fr h₀ L s.heap m) (N : News h₀ L s.heap news) (hm : (ax, listOf (List.toArray vs) na) ∈ news) (hi : IntsAre vs ns) (hz : vs.length ≤ 1000) (hh : A.handled = none)
    (fin : CompFin prog w A E h₀ L use Q s m news (fun ys => ys = boolVs (ns.map f)))
    (el : ∀ C a t h tk m₃ E' g d o, a ∈ ns → Fr h₀ C h m₃ → News h₀ C h news → m₃ x = some (.int a t) → wpAny (model prog w) A (eval elt (compEnvC scope cl C env)) (fun y s₄ => y = .bool (f a) ∧ Keeps { heap := h, toks := tk, gens := g, drawn := d, os := o } s₄) E' { heap := h, toks := tk, gens := g, drawn := d, os := o }) :
    CompAtU use E prog w A h₀ L env scope cl x [] elt Q (.ref ax) s := by
  refine ⟨ax, vs, m, news, fun _ => true, fun v y => ∃ a t, v = Value.int a t ∧ y = Value.bool (f a), rfl, F, N, ⟨_, (N _ hm).1, rfl, na, rfl⟩, by rw [sizeLine_eq]; omega, hh, quietT_nil, ?_, ?_⟩
  · intro C v h tk m₃ E' g d o hv _ F₃ N₃ hm₃
    obtain ⟨a, t, rfl, ha⟩ := ints_get hi v hv
    exact wpAny_mono (el C a t h tk m₃ E' g d o ha F₃ N₃ hm₃) (fun y s₄ z => ⟨⟨a, t, rfl, z.1⟩, z.2⟩) fun _ _ z => z
  · intro D C ys n h' tk m'' a1 a2 a3 a4 a5 a6 hP
    exact fin D C ys n h' tk m'' a1 a2 a3 a4 a5 a6 (paired_bool hi hP)
theorem item_G {value slice : PySem.Expr} {l : Addr} {its : List Value} {c : Nat} {k : Int} {u : Tok} {v : Value} {Q : Value → Shared → Prop} (N : News h₀ L s.heap news) (hm : (l, listOf (List.toArray its) c) ∈ news) (h0 : 0 ≤ k) (hhi : k < 1000) (hx : its[k.toNat]? = some v) (h : Q v s)
    (hs : subscripted slice false (.ref l) (.int k u) = operate [.ref l, .int k u] (getItem (.ref l) (.int k u)) := by with_unfolding_all rfl) :
    wpAny (model prog w) A (subscriptTail value slice (.ref l) (.int k u)) Q E s :=
  have hl : s.heap.IsList l its.toArray := ⟨_, (N _ hm).1, rfl, c, rfl⟩
  tail_any hl.typeIs slot_list_getitem.lookup (wpAny_getItem_list hl h0 (by omega) (by simpa using hx) h) hs
end
theorem row_at {own : List (Addr × Obj)} {rows : List Addr} {vals : List Int} {i : Nat} {j : Int} (h : RowsAt own rows vals) (hr : rows.length = i) (hv : vals.length = i) (h0 : 0 ≤ j) (h1 : j < i) :
    ∃ ra c, (rows.map Value.ref)[j.toNat]? = some (.ref ra) ∧ (ra, listOf (List.toArray (rowVals (vals.getD j.toNat 0))) c) ∈ own := by
  have e1 : j.toNat < rows.length := by omega
  have e2 : j.toNat < vals.length := by omega
  obtain ⟨c, hc⟩ := h j.toNat rows[j.toNat] vals[j.toNat] (List.getElem?_eq_getElem e1) (List.getElem?_eq_getElem e2)
  refine ⟨rows[j.toNat], c, by rw [List.getElem?_map, List.getElem?_eq_getElem e1]; rfl, ?_⟩
  rw [List.getD_eq_getElem?_getD, List.getElem?_eq_getElem e2]
  exact hc
theorem rowVals_at (v : Int) {n : Nat} (h : n < 5) : (rowVals v)[(n : Int).toNat]? = some (.bool (decide ((n : Int) = v))) := by
  have : n = 0 ∨ n = 1 ∨ n = 2 ∨ n = 3 ∨ n = 4 := by omega
  rcases this with rfl | rfl | rfl | rfl | rfl <;> rfl
end Mine
namespace Mine
def isTrueV : Value → Bool
  | .bool b => b == true
  | _ => false
theorem any_true (bs : List Bool) : (boolVs bs).toArray.any isTrueV = bs.contains true := by
  rw [← Array.any_toList, show (boolVs bs).toArray.toList = boolVs bs from rfl]
  unfold boolVs
  induction bs with
  | nil => rfl
  | cons b r ih =>
    rw [List.map_cons, List.any_cons, List.contains_cons, ih]
    cases b <;> rfl
section
variable {prog : Program} {w : World} {A : Around} {E : Value → Shared → Prop} {s : Shared} {h₀ : Heap} {L : Addr} {m : Str → Option Value} {news : List (Addr × Obj)}
theorem add_bools {a b : Addr} {xs ys : List Bool} {na nb : Nat} {Q : Value → Shared → Prop} (F : Fr h₀ L s.heap m) (N : News h₀ L s.heap news) (ha : (a, listOf (List.toArray (boolVs xs)) na) ∈ news) (hb : (b, listOf (List.toArray (boolVs ys)) nb) ∈ news) (hz : xs.length + ys.length ≤ 1000)
    (h : ∀ D h', Fr h₀ L h' m → News h₀ L h' ((D, listOf (List.toArray (boolVs (xs ++ ys))) 0) :: news) → (∀ p ∈ news, p.1 < D) → Q (.ref D) { s with heap := h' }) : wpAny (model prog w) A (binaryOp .Add (.ref a) (.ref b)) Q E s := by
  refine add_lists F N ⟨_, (N _ ha).1, rfl, na, rfl⟩ ⟨_, (N _ hb).1, rfl, nb, rfl⟩ (fun h' F' N' => ?_) (by rw [boolVs_len, boolVs_len, sizeLine_eq]; omega)
  have e : boolVs xs ++ boolVs ys = boolVs (xs ++ ys) := by unfold boolVs; simp
  rw [e] at N'
  exact h _ h' F' N' fun p hp => Heap.lt_size (N p hp).1
theorem notin_bools {l : Addr} {bs : List Bool} {n : Nat} {Q : Value → Shared → Prop} (N : News h₀ L s.heap news) (hm : (l, listOf (List.toArray (boolVs bs)) n) ∈ news) (h : Q (.bool (!bs.contains true)) s) : wpAny (model prog w) A (compareOp .NotIn (.bool true) (.ref l)) Q E s := by
  refine SeqAt.notIn_listAt isTrueV (items := (boolVs bs).toArray) ⟨_, (N _ hm).1, rfl, n, rfl⟩ (fun y hy => ?_) ?_
  · have hy' : y ∈ boolVs bs := by simpa using hy
    obtain ⟨b, _, rfl⟩ := List.mem_map.mp hy'
    exact SeqAt.EqAt.bool_bool b true
  · rw [any_true]; exact h
end
end Mine
namespace Mine
section
variable {h₀ h' : Heap} {L : Addr} {m : Str → Option Value} {own : List (Addr × Obj)} {s : Shared}
theorem law4_in_end {Q : Flow → Shared → Prop} {vs vals : List Int} {rows : List Addr} {vHE : Value} {I2 RO FR cH R D I LO VA HE NU cF cR cK cL cV cN : Addr} {oR oD oI oLO oVA oHE oNU oF oRc oK oL oV oN : Obj} {n rn fn tk : Nat} {oH : Obj} {vH : Option Value} {b1 b2 : Bool} {g1 g2 : Addr × Obj}
    (F : Fr h₀ L h' m) (N : News h₀ L h' (g1 :: g2 :: (I2, rangeIterObj ((n : Int) + 1) (5 - (n : Int) - 1) 1) :: (RO, listOf (List.toArray (boolVs (row4 vs n) ++ [.bool b1])) (rn + 1)) :: (FR, listOf (List.toArray (boolVs (free4 vs n) ++ [.bool b2])) (fn + 1)) :: (cH, oH) :: (R, oR) :: (D, oD) :: (I, oI) :: (LO, oLO) :: (VA, oVA) :: (HE, oHE) :: (NU, oNU) :: (cF, oF) :: (cR, oRc) :: (cK, oK) :: (cL, oL) :: (cV, oV) :: (cN, oN) :: own))
    (hn : n < 5) (e1 : b1 = !((vs.map fun v => decide ((n : Int) = v)) ++ row4 vs n).contains true) (e2 : b2 = !(vs.map fun v => decide ((n : Int) = v)).contains true)
    (hm : m "heaps" = some vHE) (hm2 : m "back" = some (.ref D)) (hm3 : m "left" = some (.ref R)) (hoff : OwnOff own [I2, RO, FR, cH, R, D, I, LO, VA, HE, NU, cF, cR, cK, cL, cV, cN]) (hrows : RowsAt own rows vals) (hH : oH.data = .cell vH) :
    FPost h₀ L (J5 vs rows vals vHE I2 RO FR cH R D I LO VA HE NU cF cR cK cL cV cN oR oD oI oLO oVA oHE oNU oF oRc oK oL oV oN) (5 - n) s Q .next { s with heap := h', toks := tk } := by
  have c1 : (n : Int) + 1 = ((n + 1 : Nat) : Int) := by omega
  have c2 : 5 - (n : Int) - 1 = 5 - ((n + 1 : Nat) : Int) := by omega
  have c3 : boolVs (row4 vs n) ++ [Value.bool b1] = boolVs (row4 vs (n + 1)) := by rw [boolVs_snoc, e1]; rfl
  have c4 : boolVs (free4 vs n) ++ [Value.bool b2] = boolVs (free4 vs (n + 1)) := by rw [boolVs_snoc, e2, free4_succ]
  rw [c2, c1, c3, c4] at N
  have hs : ∀ q ∈ (I2, rangeIterObj ((n + 1 : Nat) : Int) (5 - ((n + 1 : Nat) : Int)) 1) :: led5 RO FR cH R D I LO VA HE NU cF cR cK cL cV cN (listOf (List.toArray (boolVs (row4 vs (n + 1)))) (rn + 1)) (listOf (List.toArray (boolVs (free4 vs (n + 1)))) (fn + 1)) oH oR oD oI oLO oVA oHE oNU oF oRc oK oL oV oN [],
      q ∈ g1 :: g2 :: (I2, rangeIterObj ((n + 1 : Nat) : Int) (5 - ((n + 1 : Nat) : Int)) 1) :: (RO, listOf (List.toArray (boolVs (row4 vs (n + 1)))) (rn + 1)) :: (FR, listOf (List.toArray (boolVs (free4 vs (n + 1)))) (fn + 1)) :: (cH, oH) :: (R, oR) :: (D, oD) :: (I, oI) :: (LO, oLO) :: (VA, oVA) :: (HE, oHE) :: (NU, oNU) :: (cF, oF) :: (cR, oRc) :: (cK, oK) :: (cL, oL) :: (cV, oV) :: (cN, oN) :: own := by
    intro q hq
    simp only [led5, List.mem_cons, List.not_mem_nil, or_false] at hq ⊢
    rcases hq with h | h | h | h | h | h | h | h | h | h | h | h | h | h | h | h | h <;> subst h <;> simp
  have N2 := news_back N hs
  refine ⟨5 - (n + 1), m, _, h', tk, by omega, rfl, F, N2, ?_⟩
  refine J5.mk (n := n + 1) (rn := rn + 1) (fn := fn + 1) (own := _) rfl (by omega) hm hm2 hm3 (beside_off _) ?_ hH
  refine hrows.mono fun p hp => ?_
  refine List.mem_filter.mpr ⟨?_, ?_⟩
  · simp only [List.mem_cons]
    repeat (first | exact .inr (by assumption) | apply Or.inr)
  · rw [decide_eq_true_eq]
    have h12 := hoff p hp
    simp only [List.mem_cons, List.not_mem_nil, or_false, forall_eq_or_imp, forall_eq] at h12
    simp only [led5, List.map_cons, List.map_nil, List.mem_cons, List.not_mem_nil, or_false, not_or]
    exact h12
theorem valsT_succ (ns : List Int) (i : Nat) : valsT ns (i + 1) = valsT ns i ++ [mex4 (reachV ns (valsT ns i) i)] := rfl
theorem RowsAt.snoc {own : List (Addr × Obj)} {rows : List Addr} {vals : List Int} {a : Addr} {v : Int} {n : Nat} (h : RowsAt own rows vals) (hl : rows.length = vals.length) (ha : (a, listOf (List.toArray (rowVals v)) n) ∈ own) : RowsAt own (rows ++ [a]) (vals ++ [v]) := by
  intro j b u h1 h2
  by_cases hj : j < rows.length
  · rw [List.getElem?_append_left hj] at h1
    rw [List.getElem?_append_left (by omega)] at h2
    exact h j b u h1 h2
  · rw [List.getElem?_append_right (by omega)] at h1
    rw [List.getElem?_append_right (by omega)] at h2
    have : j - rows.length = 0 := by
      have := (List.getElem?_eq_some_iff.mp h1).1
      simp at this; omega
    rw [this] at h1
    rw [← hl, this] at h2
    simp at h1 h2
    subst h1; subst h2
    exact ⟨n, ha⟩
theorem law4_turn_end {Q : Flow → Shared → Prop} {ns : List Int} {i tk ln vn rn : Nat} {rows : List Addr} {news : List (Addr × Obj)} {vvs : List Value} {I VA LO HE NU cN cV cL cK cR cF cH RO : Addr} {oHE oNU oN oV oL oK oR oF oH : Obj} {vK vR vF vH : Option Value} {tm : Tok}
    (F : Fr h₀ L h' m) (N : News h₀ L h' news) (hi : i < ns.length) (hm : m "heaps" = some (.ref HE)) (hvv : IntsAre vvs (valsT ns i)) (hrl : rows.length = i) (hrows : RowsAt own rows (valsT ns i)) (hown : ∀ p ∈ own, p ∈ news)
    (hoff : OwnOff own [I, LO, VA, HE, NU, cH, cF, cR, cK, cL, cV, cN])
    (m1 : (I, rangeIterObj ((i : Int) + 1) ((ns.length : Int) - i - 1) 1) ∈ news) (m2 : (LO, listOf (List.toArray (rows.map Value.ref ++ [Value.ref RO])) ln) ∈ news) (m3 : (VA, listOf (List.toArray (vvs ++ [Value.int (mex4 (reachV ns (valsT ns i) i)) tm])) vn) ∈ news)
    (m4 : (HE, oHE) ∈ news) (m5 : (NU, oNU) ∈ news) (m6 : (cH, oH) ∈ news) (m7 : (cF, oF) ∈ news) (m8 : (cR, oR) ∈ news) (m9 : (cK, oK) ∈ news) (m10 : (cL, oL) ∈ news) (m11 : (cV, oV) ∈ news) (m12 : (cN, oN) ∈ news)
    (mr : (RO, listOf (List.toArray (boolVs (row4 (reachV ns (valsT ns i) i) 5))) rn) ∈ news) (hK : oK.data = .cell vK) (hR : oR.data = .cell vR) (hF : oF.data = .cell vF) (hH : oH.data = .cell vH)
    (hne : RO ≠ I ∧ RO ≠ LO ∧ RO ≠ VA ∧ RO ≠ HE ∧ RO ≠ NU ∧ RO ≠ cH ∧ RO ≠ cF ∧ RO ≠ cR ∧ RO ≠ cK ∧ RO ≠ cL ∧ RO ≠ cV ∧ RO ≠ cN) :
    FPost h₀ L (J4 ns I VA LO HE NU cN cV cL cK cR cF cH oHE oNU oN oV oL) (ns.length - i) s Q .next { s with heap := h', toks := tk } := by
  have c1 : (i : Int) + 1 = ((i + 1 : Nat) : Int) := by omega
  have c2 : (ns.length : Int) - i - 1 = (ns.length : Int) - ((i + 1 : Nat) : Int) := by omega
  have c3 : rows.map Value.ref ++ [Value.ref RO] = (rows ++ [RO]).map Value.ref := by simp
  have c4 : boolVs (row4 (reachV ns (valsT ns i) i) 5) = rowVals (mex4 (reachV ns (valsT ns i) i)) := row4_5 (reach_len ns _ i)
  rw [c2, c1] at m1
  rw [c3] at m2
  rw [c4] at mr
  have hs : ∀ q ∈ (I, rangeIterObj ((i + 1 : Nat) : Int) ((ns.length : Int) - ((i + 1 : Nat) : Int)) 1) :: (LO, listOf (List.toArray ((rows ++ [RO]).map Value.ref)) ln) :: (VA, listOf (List.toArray (vvs ++ [Value.int (mex4 (reachV ns (valsT ns i) i)) tm])) vn) :: (HE, oHE) :: (NU, oNU) :: (cH, oH) :: (cF, oF) :: (cR, oR) :: (cK, oK) :: (cL, oL) :: (cV, oV) :: (cN, oN) :: [], q ∈ news := by
    intro q hq
    simp only [List.mem_cons, List.not_mem_nil, or_false] at hq
    rcases hq with h | h | h | h | h | h | h | h | h | h | h | h <;> subst h <;> assumption
  have N2 := news_back N hs
  refine ⟨ns.length - (i + 1), m, _, h', tk, by omega, rfl, F, N2, ?_⟩
  have hmem : ∀ p ∈ own, p ∈ beside (List.map (·.1) ((I, rangeIterObj ((i + 1 : Nat) : Int) ((ns.length : Int) - ((i + 1 : Nat) : Int)) 1) :: (LO, listOf (List.toArray ((rows ++ [RO]).map Value.ref)) ln) :: (VA, listOf (List.toArray (vvs ++ [Value.int (mex4 (reachV ns (valsT ns i) i)) tm])) vn) :: (HE, oHE) :: (NU, oNU) :: (cH, oH) :: (cF, oF) :: (cR, oR) :: (cK, oK) :: (cL, oL) :: (cV, oV) :: (cN, oN) :: [])) news := fun p hp => by
    refine List.mem_filter.mpr ⟨hown p hp, ?_⟩
    rw [decide_eq_true_eq]
    have h12 := hoff p hp
    simp only [List.mem_cons, List.not_mem_nil, or_false, forall_eq_or_imp, forall_eq] at h12
    simp only [List.map_cons, List.map_nil, List.mem_cons, List.not_mem_nil, or_false, not_or]
    exact h12
  refine J4.mk (i := i + 1) (own := _) rfl (by omega) hm ?_ ?_ ?_ ?_ hK hR hF hH
  · intro p hp b hb
    refine beside_off _ p hp b ?_
    simp only [List.map_cons, List.map_nil, List.mem_cons, List.not_mem_nil, or_false] at hb ⊢
    rcases hb with h | h | h | h | h | h | h | h | h | h | h | h <;> subst h <;> simp
  · rw [valsT_succ]
    exact ints_snoc' hvv
  · rw [List.length_append, hrl]; rfl
  · rw [valsT_succ]
    refine RowsAt.snoc (n := rn) (hrows.mono hmem) (by rw [hrl, valsT_len]) ?_
    refine List.mem_filter.mpr ⟨mr, ?_⟩
    rw [decide_eq_true_eq]
    simp only [List.map_cons, List.map_nil, List.mem_cons, List.not_mem_nil, or_false, not_or]
    exact hne
theorem heaps4_ints (t0 t1 t2 t3 t4 t5 t6 t7 t8 t9 ta tb tc td te : Tok) : IntsAre [Value.int 0 t0, Value.int 1 t1, Value.int 0 t2, Value.int 2 t3, Value.int 1 t4, Value.int 0 t5, Value.int 3 t6, Value.int 2 t7, Value.int 1 t8, Value.int 0 t9, Value.int 4 ta, Value.int 3 tb, Value.int 2 tc, Value.int 1 td, Value.int 0 te] heaps4 := by
  unfold heaps4; repeat (first | exact .nil | refine .cons _ _ ?_)
theorem heaps4_mem {a : Int} (h : a ∈ heaps4) : 0 ≤ a ∧ a < 5 := by
  simp only [heaps4, List.mem_cons, List.not_mem_nil, or_false] at h
  omega
theorem boolVs_at {bs : List Bool} {y : Int} (h0 : 0 ≤ y) (h : y < bs.length) : (boolVs bs)[y.toNat]? = some (.bool (bs.getD y.toNat false)) := by
  have e : y.toNat < bs.length := by omega
  unfold boolVs
  rw [List.getElem?_map, List.getD_eq_getElem?_getD, List.getElem?_eq_getElem e]; rfl
theorem ints_mex {ys : List Value} {v : Int} (h : IntsAre ys [v]) : ∃ t, ys = [.int v t] := by
  cases h with
  | cons n t h2 => cases h2; exact ⟨t, rfl⟩
end
end Mine
namespace Mine
theorem nums_abs {vs : List Value} {ws : List Int} (h : IntsAre vs ([0] ++ ws ++ [15])) (hl : ¬ ((63 : Nat) : Int) < ((ws.length : Nat) : Int)) : ∃ ns, IntsAre vs ns ∧ ns.length ≤ 65 ∧ (((1 + ws.length + 1 : Nat)) : Int) = (ns.length : Int) :=
  ⟨_, h, by simp; omega, by simp; omega⟩
theorem backP_t {ns : List Int} {i : Nat} {y : Int} (h1 : y ≤ (i : Int)) (h2 : ((ns.getD ((i : Int)).toNat 0).fdiv (2 ^ (y - 1).toNat)).fmod 2 = 1) : true = backP ns i y := by
  rw [Int.toNat_natCast] at h2
  unfold backP
  rw [decide_eq_true h1, decide_eq_true h2]; rfl
theorem backP_f {ns : List Int} {i : Nat} {y : Int} (h2 : ((ns.getD ((i : Int)).toNat 0).fdiv (2 ^ (y - 1).toNat)).fmod 2 ≠ 1) : false = backP ns i y := by
  rw [Int.toNat_natCast] at h2
  unfold backP
  rw [decide_eq_false h2, Bool.and_false]
theorem backP_n {ns : List Int} {i : Nat} {y : Int} (h1 : ¬ y ≤ (i : Int)) : false = backP ns i y := by
  unfold backP
  rw [decide_eq_false h1, Bool.false_and]
theorem news_front {h₀ h : Heap} {L I : Addr} {oI : Obj} {pre post : List (Addr × Obj)} (N : News h₀ L h (pre ++ (I, oI) :: post)) : News h₀ L h ((I, oI) :: (pre ++ post)) := fun p hp => N p (by
  rcases List.mem_cons.mp hp with rfl | hp
  · simp
  · rcases List.mem_append.mp hp with hp | hp
    · exact List.mem_append_left _ hp
    · exact List.mem_append_right _ (.tail _ hp))
end Mine
open Mine
local macro_rules | `(tactic| walk_at "exec For Name Call cons nil") => `(tactic| (k_here; (rename Fr _ _ _ _ => lF'); (with_unfolding_all refine For_N lF' ?_)))
local macro_rules | `(tactic| walk_at "call type:range") => `(tactic| (k_here; (with_reducible show wpAny _ _ (call _ [_]) _ _ _); k_dflt (refine' range1_M ?F ?N ?_; (case F => k_asm); (case N => k_asm)); intro r' h' tk' t1' u1' v1' F' N' l1; (try k_lt l1); (try k_sweep)))
local macro_rules | `(tactic| walk_at "call type:range") => `(tactic| (k_here; (with_reducible show wpAny _ _ (call _ [_, _]) _ _ _); k_dflt (refine' range2_M ?F ?N ?_; (case F => k_asm); (case N => k_asm)); intro r' h' tk' t1' u1' v1' F' N' l1; (try k_lt l1); (try k_sweep)))
local macro_rules | `(tactic| walk_at "pyIter ref") => `(tactic| (k_here; (with_reducible show wpAny _ _ (pyIter (Value.ref _)) (ForAt _ _ _ _ _ _ _ _ _ _) _ _); k_dflt (refine' iter_range_N ?F ?N ?r ?s ?_; (case F => k_asm); (case N => k_asm); (case r => exact News.get (by k_asm) (by k_mem)); (case s => exact small_one (by omega) (by omega) (by omega) (by omega))); intro I' h' F' N' l1; (try k_lt l1); (try k_sweep)))
local macro_rules | `(tactic| walk_at "eval ListComp") => `(tactic| (k_here; k_dflt (refine Comp_eval (by k_asm) (by with_unfolding_all rfl) (by decide) (by rfl) (by decide) (by rfl) ?_)))
local macro_rules | `(tactic| walk_at "eval ListComp") => `(tactic| (k_here; (with_reducible show wpAny _ _ (eval (Expr.ListComp _ [⟨_, Expr.Call _ _ _ _, _, _⟩] _ _) _) _ _ _); k_dflt (refine CompR_eval (by k_asm) (by with_unfolding_all rfl) (by decide) (by rfl) (by decide) (by rfl) ?_)))
local macro_rules | `(tactic| walk_at "exec Assign cons ListComp") => `(tactic| (k_here; (with_reducible show wpAny _ _ (exec (Stmt.Assign [Expr.Name _ _] (Expr.ListComp _ [_] _ _) _) _) _ _ _); k_dflt (refine Comp_assign (by k_asm) (by with_unfolding_all rfl) (by decide) (by rfl) (by decide) (by rfl) (by rfl) ?_)))
local macro_rules | `(tactic| walk_at "exec Assign cons ListComp") => `(tactic| (k_here; (with_reducible show wpAny _ _ (exec (Stmt.Assign [Expr.Name _ _] (Expr.ListComp _ [⟨_, Expr.Call _ _ _ _, _, _⟩] _ _) _) _) _ _ _); k_dflt (refine CompR_assign (by k_asm) (by with_unfolding_all rfl) (by decide) (by rfl) (by decide) (by rfl) (by rfl) ?_)))
local macro_rules | `(tactic| walk_at "eval Name") => `(tactic| (k_here; k_dflt (refine' nameX_L ?F ?v ?_ ?a ?b; (case F => k_asm); (case a => rfl); (case b => rfl); (case v => (repeat (first | assumption | refine Eq.trans (if_neg (by decide)) ?_))); k_whole)))
local macro_rules | `(tactic| walk_at "eval Name") => `(tactic| (k_here; (with_reducible show wpAny _ _ (eval (Expr.Name _ _) (compEnvC _ _ _ _)) _ _ _); k_dflt (first
  | (refine' name_comp ?F ?v ?_ ?a ?b; (case F => k_asm); (case a => rfl); (case b => rfl); (case v => assumption); k_whole)
  | (refine' name_compB ?F ?X ?T ?e ?v ?n ?_ ?a ?b ?c ?d; (case F => k_asm); (case X => k_asm); (case T => k_asm); (case a => rfl); (case b => rfl); (case c => rfl); (case d => rfl); (case e => k_is); (case v => boot_fast); (case n => decide); k_whole))))
local macro_rules | `(tactic| walk_at "call type:set") => `(tactic| (k_here; k_dflt (refine' set_list_N ?F ?N ?m ?h ?i ?b ?_; (case F => k_asm); (case N => k_asm); (case m => k_mem); (case h => exact rfl); (case i => assumption); (case b => omega)); intro S' so' h' tk' F' N' l1 hs'; (try k_lt l1); (try k_sweep)))
local macro_rules | `(tactic| walk_at "getAttr ref") => `(tactic| (k_here; (with_reducible show wpAny _ _ (getAttr _ (Str.ofString "__contains__") _) _ _ _); k_dflt (refine' getAttr_has_N ?F ?N ?m ?s ?_; (case F => k_asm); (case N => k_asm); (case m => k_mem); (case s => assumption)); intro b' h' F' N' l1; (try k_lt l1); (try k_sweep)))
local macro_rules | `(tactic| walk_at "call builtin:iter") => `(tactic| (k_here; k_dflt (refine' iter_list_N ?F ?N ?l ?_; (case F => k_asm); (case N => k_asm); (case l => kmk_list)); intro I' h' F' N' l1; (try k_lt l1); (try k_sweep)))
local macro_rules | `(tactic| walk_at "call builtin:list.append") => `(tactic| (k_here; k_dflt (refine' append_G ?F ?N ?U ?z ?_; (case F => k_asm); (case N => k_asm); (case U => k_upd); (case z => omega)); intro h' F' N'; (try k_sweep)))
local macro_rules | `(tactic| walk_at "setAttr ref") => `(tactic| (k_here; k_dflt (refine' set_slot ?k1 ?k2 ?k3 ?k4 ?k5 ?k6 ?k7 ?k8 ?k9 ?k10 ?k11 ?k12 ?k13 ?_; (case k1 => k_asm); (case k2 => k_asm); (case k3 => k_asm); (case k4 => k_inst); (case k5 => k_is); (case k6 => k_is); (case k7 => k_is); (case k8 => k_is); (case k9 => k_is); (case k10 => decide); (case k11 => k_slotset); (case k12 => exact rfl); (case k13 => (first | (refine' Upd.head ?uc; (case uc => ((repeat (refine' List.forall_mem_cons.mpr ⟨by k_ne, ?_⟩)); first | exact List.forall_mem_nil _ | (rename _ < _ ∧ _ => q; first | ((repeat (first | exact allLt_ne q (by omega) | replace q := q.2)); done) | (clear q; rename _ < _ ∧ _ => q; first | ((repeat (first | exact allLt_ne q (by omega) | replace q := q.2)); done) | (clear q; rename _ < _ ∧ _ => q; first | ((repeat (first | exact allLt_ne q (by omega) | replace q := q.2)); done) | (clear q; rename _ < _ ∧ _ => q; ((repeat (first | exact allLt_ne q (by omega) | replace q := q.2)); done)))))))) | (refine' Upd.tail ?ua ?ub; (case ua => k_ne); (case ub => (refine' Upd.head ?uc; (case uc => ((repeat (refine' List.forall_mem_cons.mpr ⟨by k_ne, ?_⟩)); first | exact List.forall_mem_nil _ | (rename _ < _ ∧ _ => q; first | ((repeat (first | exact allLt_ne q (by omega) | replace q := q.2)); done) | (clear q; rename _ < _ ∧ _ => q; first | ((repeat (first | exact allLt_ne q (by omega) | replace q := q.2)); done) | (clear q; rename _ < _ ∧ _ => q; first | ((repeat (first | exact allLt_ne q (by omega) | replace q := q.2)); done) | (clear q; rename _ < _ ∧ _ => q; ((repeat (first | exact allLt_ne q (by omega) | replace q := q.2)); done)))))))))))); k_whole; intro h' F' N'; (try k_sweep))))
local macro_rules | `(tactic| walk_at "call type:list") => `(tactic| (refine haltI ?_))
local macro_rules | `(tactic| walk_at "own") => `(tactic| ((rename _ < _ ∧ _ => q); first | ((repeat (first | exact fun p hp => allLt_ne q (by omega) p hp | replace q := q.2)); done) | (clear q; walk_at "own")))
local macro_rules | `(tactic| walk_at "subscriptTail") => `(tactic| (k_here; (with_reducible show wpAny _ _ (subscriptTail _ _ (Value.ref _) (Value.int _ _)) _ _ _); k_dflt (refine' item_G ?N ?m ?a ?b ?x ?_ ?s; (case N => k_asm); (case m => first | k_mem | ((repeat apply List.mem_cons_of_mem); assumption)); (case x => assumption); (case a => omega); (case b => omega); (case s => with_unfolding_all rfl); k_whole)))
local macro_rules | `(tactic| walk_at "binaryOp Add ref ref") => `(tactic| (k_here; k_dflt (refine' add_bools ?F ?N ?a ?b ?z ?_; (case F => k_asm); (case N => k_asm); (case a => k_mem); (case b => k_mem); (case z => omega)); intro D' h' F' N' l1; (try k_lt l1); (try k_sweep)))
local macro_rules | `(tactic| walk_at "compareOp NotIn bool ref") => `(tactic| (k_here; k_dflt (refine' notin_bools ?N ?a ?_; (case N => k_asm); (case a => k_mem); k_whole)))
theorem PySem.Challenge.cw_kn0115_04_holds : PySem.Challenge.rw_kn0115_04.Holds := by
  refine Mine.hd ?_
  k_go0
  all_goals try k_fold
  k_steps
  rename Fr _ _ _ _ => F1
  rename News _ _ _ _ => N1
  rename IntsAre _ (_ ++ [15]) => hI1
  obtain ⟨ns, hns, hnl, hnn⟩ := nums_abs hI1 (by assumption)
  refine law4_for (ns := ns) F1 N1 hnn rfl rfl ?_ (by assumption) (by assumption) (by assumption) (by assumption) ⟨by k_ne, by k_ne, by k_ne, by k_ne, by k_ne, by k_ne, by k_ne, by k_ne, by k_ne, by k_ne, by k_ne⟩ ?_ ?_
  · intro p hp b hb
    simp only [List.mem_cons, List.not_mem_nil, or_false] at hp hb
    rcases hp with rfl | rfl | rfl | rfl <;> rcases hb with rfl | rfl | rfl | rfl | rfl | rfl | rfl | rfl | rfl | rfl | rfl | rfl <;> k_ne
  · clear F1 N1
    intro i a m vvs rows vn ln oK oR oF oH own vK vR vF vH t h tk ha hi hm hoff hvv hrl hrows hK hR hF hH F1 N1
    k_steps
    rename Fr _ _ _ _ => F1
    rename News _ _ _ _ => N1
    refine compR_pf (n := 4) (backP ns i) (fun y => (i : Int) - y) F1 N1 (N1.get (by k_mem)) (small_one (by omega) (by omega) (by omega) (by omega)) rfl (by omega) rfl (compFin_store F1 N1 rfl rfl rfl ?_) ?_ ?_
    rotate_left
    · clear F1 N1
      intro C y ty h tk m₃ E' g d o hy F1 N1 hm3
      have hy' : y = 1 ∨ y = 2 ∨ y = 3 ∨ y = 4 := by have := mem_rangeInts hy; omega
      rcases hy' with rfl | rfl | rfl | rfl
      all_goals k_steps
      all_goals first | exact ⟨_, _, rfl, fun _ _ e => e⟩ | exact backP_t (by assumption) (by assumption) | exact backP_f (by assumption) | exact backP_n (by assumption)
    · clear F1 N1
      intro C y ty h tk m₃ E' g d o hy hp F1 N1 hm3
      k_steps
      all_goals first | exact ⟨_, _, rfl, fun _ _ e => e⟩
    clear F1 N1
    intro D ys' n' h tk F1 N1 hne hys'
    have l9 := allNe_of hne
    have oD := allNe_of hne
    simp only [AllNe] at l9
    have hbl := IntsAre.length hys'
    have hbk := back_len ns i
    unfold backT at hbk
    have hvl := IntsAre.length hvv
    rw [valsT_len] at hvl
    have hvl2 := valsT_len ns i
    have hrl2 : (rows.map Value.ref).length = i := by rw [List.length_map]; exact hrl
    k_steps
    rename Fr _ _ _ _ => F1
    rename News _ _ _ _ => N1
    refine comp_mapU (fun j => (valsT ns i).getD j.toNat 0) F1 N1 (by k_mem) hys' (by omega) rfl (compFin_none F1 N1 ?_) ?_
    rotate_left
    · clear F1 N1
      intro C j tj h tk m₃ E' g d o hj F1 N1 hm3
      obtain ⟨hj0, hj1⟩ : 0 ≤ j ∧ j < i := back_mem (ns := ns) hj
      k_steps
      all_goals first | exact ⟨_, _, rfl, fun _ _ e => e⟩
    clear F1 N1
    intro D1 bvs n1 h tk F1 N1 hne1 hbvs
    have l9 := allNe_of hne1
    simp only [AllNe] at l9
    have hbl1 := IntsAre.length hbvs
    rw [List.length_map] at hbl1
    k_steps
    rename Fr _ _ _ _ => F1
    rename News _ _ _ _ => N1
    rename IsHas _ _ => hhas
    unfold Halt
    have hbs4 := reach_len ns (valsT ns i) i
    have hheaps : ∀ (t0 t1 t2 t3 t4 t5 t6 t7 t8 t9 ta tb tc td te : Tok), IntsAre [Value.int 0 t0, Value.int 1 t1, Value.int 0 t2, Value.int 2 t3, Value.int 1 t4, Value.int 0 t5, Value.int 3 t6, Value.int 2 t7, Value.int 1 t8, Value.int 0 t9, Value.int 4 ta, Value.int 3 tb, Value.int 2 tc, Value.int 1 td, Value.int 0 te] heaps4 := heaps4_ints
    refine list_ff1 (bs := reachV ns (valsT ns i) i) (ns := heaps4) F1 N1 (by assumption) (topRead_of (by assumption)) rfl rfl (by show ScopeKind.function ≠ ScopeKind.module; decide) rfl (by k_room) (Nat.le_of_ble_eq_true rfl) hhas (by k_mem) (hheaps ..) (by decide) ?_ ?_
    · intro q hq
      simp only [List.mem_cons] at hq
      rcases hq with rfl | rfl | rfl | rfl | rfl | rfl | rfl | rfl | rfl | rfl | rfl | rfl | rfl | rfl | rfl | rfl | rfl | rfl | rfl | hq
      all_goals first | (k_ne; done) | (revert q; walk_at "own")
    clear F1 N1
    intro R h tk acc ac F1 N1 l1 hacc
    k_lt l1
    obtain ⟨tm, racc, rfl⟩ := left_abs hbs4 hacc
    k_steps
    rename Fr _ _ _ _ => F1
    rename News _ _ _ _ => N1
    refine law4_in (vs := reachV ns (valsT ns i) i) (vals := valsT ns i) (rows := rows) F1 N1 rfl (Eq.trans (if_neg (by decide)) (Eq.trans (if_neg (by decide)) hm)) (Eq.trans (if_neg (by decide)) (if_pos rfl)) (if_pos rfl) hrows (by assumption) hoff (by walk_at "own") (by walk_at "own") (by walk_at "own") (by walk_at "own") ?_ ⟨by k_ne, by k_ne, by k_ne, by k_ne, by k_ne, by k_ne, by k_ne, by k_ne, by k_ne, by k_ne, by k_ne, by k_ne, by k_ne, by k_ne, by k_ne, by k_ne⟩ ?_ ?_
    · repeat (first | exact allNe_mem oD | replace oD := oD.2)
    · clear F1 N1
      intro n m rn fn oH own vH t h tk hn hm hm2 hm3 hoff hrows hH F1 N1
      simp only [led5] at N1
      k_steps
      rename Fr _ _ _ _ => F1
      rename News _ _ _ _ => N1
      refine comp_boolU (fun j => decide ((n : Int) = (valsT ns i).getD j.toNat 0)) F1 N1 (by k_mem) hys' (by omega) rfl (compFin_store F1 N1 rfl rfl rfl ?_) ?_
      rotate_left
      · clear F1 N1
        intro C j tj h tk m₃ E' g d o hj F1 N1 hm3
        obtain ⟨hj0, hj1⟩ : 0 ≤ j ∧ j < i := back_mem (ns := ns) hj
        obtain ⟨ra, rc, hra, hro⟩ := row_at hrows hrl hvl2 hj0 hj1
        have hrv := rowVals_at ((valsT ns i).getD j.toNat 0) hn
        k_steps
        all_goals first | exact ⟨_, _, rfl, fun _ _ e => e⟩
      clear F1 N1
      intro B bs bn h tk F1 N1 hneB hbs
      have hbs' : bs = boolVs ((reachV ns (valsT ns i) i).map fun v => decide ((n : Int) = v)) := by
        rw [hbs]; unfold reachV backT; simp only [List.map_map]; rfl
      subst hbs'
      clear hbs
      have l9 := allNe_of hneB
      simp only [AllNe] at l9
      have hz1 : ((reachV ns (valsT ns i) i).map fun v => decide ((n : Int) = v)).length ≤ 4 := by rw [List.length_map]; exact hbs4
      have hz2 := row4_len (reachV ns (valsT ns i) i) n
      have hz3 := boolVs_len (row4 (reachV ns (valsT ns i) i) n)
      have hz4 := boolVs_len (free4 (reachV ns (valsT ns i) i) n)
      have hz5 := free4_len (reachV ns (valsT ns i) i) n
      k_steps
      rename Fr _ _ _ _ => F1
      rename News _ _ _ _ => N1
      exact law4_in_end F1 N1 hn rfl rfl (Eq.trans (if_neg (by decide)) hm) (Eq.trans (if_neg (by decide)) hm2) (Eq.trans (if_neg (by decide)) hm3) hoff hrows (by assumption)
    · clear F1 N1
      intro m rn fn oH own vH h tk hm hm2 hm3 hoff hrows hH F1 N1
      simp only [led5] at N1
      have hz2 := row4_len (reachV ns (valsT ns i) i) 5
      have hz3 := boolVs_len (row4 (reachV ns (valsT ns i) i) 5)
      have hz4 := boolVs_len (free4 (reachV ns (valsT ns i) i) 5)
      have hz5 := free4_len (reachV ns (valsT ns i) i) 5
      k_steps
      rename Fr _ _ _ _ => F1
      rename News _ _ _ _ => N1
      refine compR_pf (n := 5) (fun a => (row4 (reachV ns (valsT ns i) i) 5).getD a.toNat false) (fun a => a) F1 N1 (N1.get (by k_mem)) (small_one (by omega) (by omega) (by omega) (by omega)) rfl (by omega) rfl (compFin_none F1 N1 ?_) ?_ ?_
      rotate_left
      · clear F1 N1
        intro C y ty h tk m₃ E' g d o hy F1 N1 hm3
        have hy' := mem_rangeInts hy
        have hyv := boolVs_at (bs := row4 (reachV ns (valsT ns i) i) 5) (y := y) (by omega) (by omega)
        k_steps
        all_goals first | exact ⟨_, _, rfl, fun _ _ e => e⟩ | rfl
      · clear F1 N1
        intro C y ty h tk m₃ E' g d o hy hp F1 N1 hm3
        k_steps
        all_goals first | exact ⟨_, _, rfl, fun _ _ e => e⟩
      clear F1 N1
      intro Y ys yn h tk F1 N1 hneY hys
      rw [List.map_id', row4_pick hbs4] at hys
      obtain ⟨ty, rfl⟩ := ints_mex hys
      have l9 := allNe_of hneY
      simp only [AllNe] at l9
      have hvk : (vvs ++ [Value.int (mex4 (reachV ns (valsT ns i) i)) tm])[((i : Int)).toNat]? = some (Value.int (mex4 (reachV ns (valsT ns i) i)) tm) := by
        rw [Int.toNat_natCast, List.getElem?_append_right (by omega), hvl, Nat.sub_self]; rfl
      have hget : (valsT ns i ++ [mex4 (reachV ns (valsT ns i) i)]).getD ((i : Int)).toNat 0 = mex4 (reachV ns (valsT ns i) i) := by
        rw [Int.toNat_natCast, List.getD_eq_getElem?_getD, List.getElem?_append_right (by omega), hvl2, Nat.sub_self]; rfl
      k_steps
      rotate_left
      · rename ¬ (_ = _) => hq
        exact (hq (by rw [hget])).elim
      rename Fr _ _ _ _ => F1
      rename News _ _ _ _ => N1
      refine comp_intsU (ns := heaps4) (fun a => (free4 (reachV ns (valsT ns i) i) 5).getD a.toNat false) F1 N1 (by k_mem) (hheaps ..) (Nat.le_of_ble_eq_true rfl) rfl rfl (fun _ => rfl) (by decide) (compFin_none F1 N1 ?_) ?_
      rotate_left
      · clear F1 N1
        intro C y ty h tk m₃ E' g d o hy F1 N1 hm3
        have hy' := heaps4_mem hy
        have hyv := boolVs_at (bs := free4 (reachV ns (valsT ns i) i) 5) (y := y) (by omega) (by omega)
        k_steps
        all_goals first | exact ⟨_, _, rfl, fun _ _ e => e⟩ | rfl
      clear F1 N1
      intro Z zs zn h tk F1 N1 hneZ hzs
      rw [free4_pick] at hzs
      have l9 := allNe_of hneZ
      simp only [AllNe] at l9
      k_steps
      rotate_left
      · rename ¬ (_ = _) => hq
        exact (hq rfl).elim
      rename Fr _ _ _ _ => F1
      rename News _ _ _ _ => N1
      refine law4_turn_end (own := own) F1 N1 hi hm hvv hrl hrows ?_ ?_ (by k_mem) (by k_mem) (by k_mem) (by k_mem) (by k_mem) (by k_mem) (by k_mem) (by k_mem) (by k_mem) (by k_mem) (by k_mem) (by k_mem) (by k_mem) (by assumption) (by assumption) (by assumption) (by assumption) ⟨by k_ne, by k_ne, by k_ne, by k_ne, by k_ne, by k_ne, by k_ne, by k_ne, by k_ne, by k_ne, by k_ne, by k_ne⟩
      · intro p hp
        repeat (first | exact hp | apply List.mem_cons_of_mem)
      · intro p hp b hb
        refine hoff p hp b ?_
        simp only [List.mem_cons, List.not_mem_nil, or_false] at hb ⊢
        rcases hb with hb | hb | hb | hb | hb | hb | hb | hb | hb | hb | hb | hb <;> simp only [hb, true_or, or_true]
  · clear F1 N1
    intro m news h tk F1 N1
    k_steps
