import PyProof.Rows.All
import Wide.All
import OpenK.AllK
import Wide.FinOn
import Lean
import PySem.Challenge.RW_kn0115_02
open PySem PySem.W PySem.Calls PyProof.Rows
set_option Elab.async false
set_option maxRecDepth 100000
set_option maxHeartbeats 8000000
namespace Mine
open_top hd for PySem.Challenge.rw_kn0115_02
end Mine
namespace Mine

abbrev boundHas (S : Addr) : Obj := { cls := .type "builtin_function_or_method", data := .fields #[.builtin "set.__contains__", .ref S] }

theorem slot_set_has : Slot "set" "__contains__" "set.__contains__" :=
  .of (owner := "set") (n := "__contains__") (by rw [typeLookup_type, builtinLookup_eq_fast]; kernel_rfl) (by decide +kernel) (by decide +kernel) (by decide +kernel)
    (by first | exact .inl (by decide +kernel) | exact .inr (by decide +kernel)) (by rw [isSubtype_type]; kernel_rfl)
theorem slot_set_ga : Slot "set" "__getattribute__" "set.__getattribute__" :=
  .of (owner := "set") (n := "__getattribute__") (by rw [typeLookup_type, builtinLookup_eq_fast]; kernel_rfl) (by decide +kernel) (by decide +kernel) (by decide +kernel)
    (by first | exact .inl (by decide +kernel) | exact .inr (by decide +kernel)) (by rw [isSubtype_type]; kernel_rfl)
theorem slot_md_get : Slot "method_descriptor" "__get__" "method_descriptor.__get__" :=
  .of (owner := "method_descriptor") (n := "__get__") (by rw [typeLookup_type, builtinLookup_eq_fast]; kernel_rfl) (by decide +kernel) (by decide +kernel) (by decide +kernel)
    (by first | exact .inl (by decide +kernel) | exact .inr (by decide +kernel)) (by rw [isSubtype_type]; kernel_rfl)
theorem type_set_has : typeOf (.builtin "set.__contains__") = pure (.type "method_descriptor") := by show builtinType _ = _; rw [builtinType_eq_fast]; kernel_rfl
theorem entry_set_ga : entryFor table "set.__getattribute__" = some Builtin.«object.__getattribute__» :=
  entryFor_alias (id' := "object.__getattribute__") (by rw [fastTable_eq_tree]; kernel_rfl) (by first | rfl | decide +kernel) (by decide +kernel) (by rw [fastTable_eq_tree]; kernel_rfl)
theorem entry_md_get : entryFor table "method_descriptor.__get__" = some Builtin.«method_descriptor.__get__» := by first | exact entryFor_of_fast (by kernel_rfl) | exact entryFor_of_tree (by kernel_rfl)
theorem entry_set_has : entryFor table "set.__contains__" = some Builtin.«frozenset.__contains__» :=
  entryFor_alias (id' := "frozenset.__contains__") (by rw [fastTable_eq_tree]; kernel_rfl) (by first | rfl | decide +kernel) (by decide +kernel) (by rw [fastTable_eq_tree]; kernel_rfl)
theorem args_set_ga (a b : Value) : argsOk "set.__getattribute__" ⟨[a, b], []⟩ := by unfold argsOk; kernel_rfl
theorem args_md_get (a b c : Value) : argsOk "method_descriptor.__get__" ⟨[a, b, c], []⟩ := by unfold argsOk; kernel_rfl
theorem args_set_has (a b : Value) : argsOk "set.__contains__" ⟨[a, b], []⟩ := by unfold argsOk; kernel_rfl
end Mine
namespace Mine
section
variable {prog : Program} {w : World} {A : Around} {E : Value → Shared → Prop} {s : Shared}

theorem md_get_set {S : Addr} {Q : Fin → Shared → Prop} (hT : s.TypeIs (.ref S) "set")
    (h : Q (.done (.ret (.ref s.heap.objs.size))) { s with heap := s.heap.push (boundHas S) }) :
    wpAny (model prog w) A (Builtin.«method_descriptor.__get__» ⟨[.builtin "set.__contains__", .ref S, .type "set"], []⟩) Q E s := by
  unfold Builtin.«method_descriptor.__get__»
  refine wpAny_bind (wpAny_of_eq (a := (.builtin "set.__contains__", some (.ref S), some (.type "set"))) (by first | rfl | kernel_rfl) ?_)
  dsimp only
  have ht : Manifest.toldItsClass.contains "set.__contains__" = false := by decide +kernel
  simp only [ht, Bool.false_eq_true, if_false]
  refine wpAny_bind (m := _) ?_
  refine wpAny_bind (m := _) ?_
  refine wpAny_of_eq (a := (("__contains__" : Str), Value.type "set")) (by first | rfl | kernel_rfl) ?_
  dsimp only
  refine wpAny_bind (wpAny_isInstance hT PySem.sub_set_self ?_)
  refine wpAny_pure ?_
  exact wpAny_bind (wpAny_newObj_type (wpAny_pure h))

theorem getAttr_set_has {S : Addr} {es ep t} {expr : Bool} {Q : Value → Shared → Prop} (ho : s.heap.get? S = some { cls := .type "set", data := .set es ep t })
    (h : Q (.ref s.heap.objs.size) { s with heap := s.heap.push (boundHas S), toks := s.toks + 1 }) :
    wpAny (model prog w) A (getAttr (.ref S) "__contains__" expr) Q E s := by
  have hT : s.TypeIs (.ref S) "set" := ⟨_, ho, rfl⟩
  unfold getAttr
  refine wpAny_bind (wpAny_mkText ?_)
  show wpAny _ _ (getAttrBy (.ref S) (.str "__contains__" s.toks) true expr) Q E { s with toks := s.toks + 1 }
  unfold getAttrBy
  refine wpAny_holding (wpAny_bind (wpAny_typeOf (s := { s with toks := s.toks + 1 }) hT ?_))
  refine wpAny_bind (wpAny_of_eq slot_set_ga.lookup ?_)
  dsimp only
  rw [if_neg (show ¬ ((onTheHeap (.type "set") && (Value.builtin "set.__getattribute__") == Value.builtin "object.__getattribute__") = true) from by decide)]
  unfold getAttrByItsOwn
  refine wpAny_bind (wpAny_of_eq (a := none) rfl ?_)
  refine wpAny_bind (wpAny_attempt (wpAny_holding ?_))
  unfold callGetattribute
  rw [if_neg (show ¬ ((expr && onTheHeap (.builtin "set.__getattribute__")) = true) from by simp [onTheHeap])]
  unfold boundAndCalled
  refine wpAny_bind (wpAny_of_eq (slot_set_ga.bind _) ?_)
  dsimp only
  refine wpAny_call_entry slot_set_ga (s := { s with toks := s.toks + 1 }) hT entry_set_ga ?_ (args_set_ga _ _)
  unfold Builtin.«object.__getattribute__»
  refine wpAny_bind (wpAny_of_eq (a := (Value.ref S, [Value.str (Str.ofString "__contains__") s.toks])) (by first | rfl | kernel_rfl) ?_)
  dsimp only
  refine wpAny_bind (wpAny_of_eq (a := ("__contains__" : Str)) (by first | rfl | kernel_rfl) ?_)
  refine wpAny_bind (wpAny_typeOf (s := { s with toks := s.toks + 1 }) hT ?_)
  unfold Builtin.ObjectAttr.find
  refine wpAny_bind (wpAny_bind (wpAny_of_eq slot_set_has.lookup ?_))
  unfold Builtin.ObjectAttr.getOf
  dsimp only
  refine wpAny_bind (wpAny_specialOf (T := "method_descriptor") (show Shared.TypeIs _ (.builtin "set.__contains__") _ from type_set_has) slot_md_get.lookup ?_)
  unfold Builtin.ObjectAttr.dataDescriptor?
  dsimp only
  have hmd : Shared.TypeIs { s with toks := s.toks + 1 } (.builtin "set.__contains__") "method_descriptor" := type_set_has
  have hset : typeLookup (.type "method_descriptor") "__set__" = pure none := by rw [typeLookup_type, builtinLookup_eq_fast]; kernel_rfl
  have hdel : typeLookup (.type "method_descriptor") "__delete__" = pure none := by rw [typeLookup_type, builtinLookup_eq_fast]; kernel_rfl
  refine wpAny_bind (wpAny_bind ?_)
  unfold Builtin.ObjectAttr.takesStores
  refine wpAny_bind (wpAny_specialOf hmd hset ?_)
  simp only [Option.isSome_none, Bool.false_eq_true, if_false]
  refine wpAny_bind (wpAny_specialOf hmd hdel ?_)
  refine wpAny_pure ?_
  simp only [Option.isSome_none, Bool.false_eq_true, if_false]
  refine wpAny_pure ?_
  dsimp only
  unfold Builtin.ObjectAttr.ownThenClass Builtin.ObjectAttr.inOwnDict Builtin.ObjectAttr.ownDict
  refine wpAny_bind (wpAny_bind (wpAny_bind (wpAny_loadPart ho ?_)))
  dsimp only
  unfold instanceDict
  refine wpAny_bind (wpAny_loadPart ho ?_)
  refine wpAny_pure ?_
  unfold Builtin.ObjectAttr.inDict
  refine wpAny_pure ?_
  dsimp only
  refine wpAny_bind (wpAny_of_eq (a := ()) (by first | rfl | kernel_rfl) ?_)
  unfold Builtin.ObjectAttr.byTheClass
  refine wpAny_bind (wpAny_rule ?_)
  refine wpAny_pure ?_
  dsimp only
  unfold Builtin.ObjectAttr.bindTo
  dsimp only
  refine wpAny_bind (wpAny_holding ?_)
  refine wpAny_call_entry slot_md_get (s := { s with toks := s.toks + 1 }) (show Shared.TypeIs _ (.builtin "set.__contains__") _ from type_set_has) entry_md_get ?_ (args_md_get _ _ _)
  refine md_get_set (s := { s with toks := s.toks + 1 }) hT ?_
  refine ⟨_, rfl, ?_⟩
  refine wpAny_pure ⟨_, rfl, ?_⟩
  exact wpAny_pure h
end
end Mine
namespace Mine
section
variable {prog : Program} {w : World} {A : Around} {E : Value → Shared → Prop} {s : Shared}

theorem check_bound_has {S : Addr} {v : Value} {Q : Unit → Shared → Prop} (hT : s.TypeIs (.ref S) "set") (hno : ∃ o es ep t, s.heap.get? S = some o ∧ o.data = .set es ep t) (h : Q () s) :
    wpAny (model prog w) A (checkBoundCall "set.__contains__" ⟨[.ref S, v], []⟩) Q E s := by
  unfold checkBoundCall
  have hsig : Manifest.signature? "set.__contains__" = some ⟨.oneArg, "set.__contains__", "__contains__", .self, [⟨"object", .posOnly, true⟩]⟩ := by kernel_rfl
  have hk : builtinKind "set.__contains__" = some .method := by decide +kernel
  rw [hsig, hk]
  dsimp only
  rw [if_neg (by decide)]
  have hmod : isSubtype (.type "set") (.type "module") = pure false := by rw [isSubtype_type]; kernel_rfl
  refine wpAny_bind (wpAny_isInstance hT hmod ?_)
  have hv : Manifest.varargsMethods.contains "set.__contains__" = false := by decide +kernel
  simp only [hv, Bool.or_false, Bool.false_eq_true, if_false]
  obtain ⟨o, es, ep, t, ho, hd⟩ := hno
  have hb : wpAny (model prog w) A (isType (.ref S)) (fun b s' => b = false ∧ s' = s) E s := by
    unfold isType
    dsimp only
    refine wpAny_bind (wpAny_loadPart ho ?_)
    rw [hd]
    exact wpAny_pure ⟨rfl, rfl⟩
  refine wpAny_bind (wpAny_mono hb ?_ (fun _ _ z => z))
  rintro b s' ⟨rfl, rfl⟩
  simp only [Bool.false_eq_true, if_false]
  refine wpAny_bind (wpAny_typeOf hT ?_)
  dsimp only
  exact wpAny_of_eq (by kernel_rfl) h

theorem call_bound {b S : Addr} {v : Value} {Q : Value → Shared → Prop} (hb : s.heap.get? b = some (boundHas S)) (hT : s.TypeIs (.ref S) "set") (hno : ∃ o es ep t, s.heap.get? S = some o ∧ o.data = .set es ep t)
    (h : wpAny (model prog w) A.in1 (Builtin.«frozenset.__contains__» ⟨[.ref S, v], []⟩) (fun fin s' => ∃ r, fin = .done (.ret r) ∧ Q r s') E s) :
    wpAny (model prog w) A (call (.ref b) [v]) Q E s := by
  refine wpAny_call (codeAny_of_tree ?_)
  show wpAny _ A.in1 (callAny (.ref b) _) _ _ _
  unfold callAny
  refine wpAny_bind (wpAny_load hb ?_)
  dsimp only
  rw [if_pos (by decide)]
  refine wpAny_bind (m := _) (check_bound_has hT hno ?_)
  refine wpAny_pure (And.intro (plainId_quiet slot_set_has.plain _) (codeAny_builtin entry_set_has ?_))
  rw [Around.under_plainId slot_set_has.plain _]
  refine wpAny_mono h (fun fin s' hf => ?_) fun _ _ z => z
  obtain ⟨r, rfl, hq⟩ := hf
  exact hq

theorem has_body {K : Type} [DecidableEq K] [BEq K] [LawfulBEq K] {knd : KeyKind prog w K} {S : Addr} {Sf : K → Bool} {n : Nat} {k : K} {key : Value} {Q : Fin → Shared → Prop}
    (hkey : knd.is k key = true) (hsc : key.scannable = true) (hS : s.heap.SetOf knd S Sf n) (h : Q (.done (.ret (.bool (Sf k)))) { s with toks := s.toks + 1 }) :
    wpAny (model prog w) A (Builtin.«frozenset.__contains__» ⟨[.ref S, key], []⟩) Q E s := by
  unfold Builtin.«frozenset.__contains__» Builtin.Frozenset.oneOther
  simp only [List.isEmpty_nil, bind_assoc]
  unfold Builtin.Frozenset.addrOf Builtin.Frozenset.withSetAsKey setContains
  refine wpAny_bind (wpAny_pure ?_)
  try dsimp only
  refine wpAny_bind (wpAny_pure ?_)
  try dsimp only
  refine wpAny_bind (wpAny_tryCatch ?_)
  refine wpAny_holding ?_
  refine wpAny_bind (knd.pyHash hkey ?_)
  refine wpAny_bind (wpAny_setFind_of (s := { s with toks := s.toks + 1 }) hkey hsc hS fun r hr => ?_)
  refine wpAny_pure ?_
  show wpAny _ _ (ret (Value.bool r.isSome)) _ _ _
  rw [hr]
  exact wpAny_pure h

theorem call_has {K : Type} [DecidableEq K] [BEq K] [LawfulBEq K] {knd : KeyKind prog w K} {b S : Addr} {Sf : K → Bool} {n : Nat} {k : K} {key : Value} {Q : Value → Shared → Prop}
    (hb : s.heap.get? b = some (boundHas S)) (hkey : knd.is k key = true) (hsc : key.scannable = true) (hS : s.heap.SetOf knd S Sf n) (h : Q (.bool (Sf k)) { s with toks := s.toks + 1 }) :
    wpAny (model prog w) A (call (.ref b) [key]) Q E s := by
  refine call_bound hb hS.typeIs ?_ (has_body hkey hsc hS ⟨_, rfl, h⟩)
  obtain ⟨o, es, ep, t, ho, _, hd, _⟩ := hS
  exact ⟨o, es, ep, t, ho, hd⟩

/-- a call, by a name, of a bound method of a built-in: the keeper is the machine -/
theorem callWith_bm {M : Model} {pos : Pos} {u S : Addr} {first : List Value} {args : List (Bool × Sem Value)} {Q : Value → Shared → Prop} (hplain : args.any (·.1) = false)
    (h : wpAny M A (evalArgs (.ref u) true args []) (fun x s₁ => s₁.heap.get? u = some (boundHas S) ∧ wpAny M A (call (.ref u) (first ++ x.pos) x.kw) Q E s₁) E s) : wpAny M A (callWith pos (.ref u) first args []) Q E s := by
  unfold callWith
  refine wpAny_bind (wpAny_holding (wpAny_mono h (fun x s₁ h₁ => wpAny_bind (wpAny_standAt ?_)) fun _ _ x => x))
  obtain ⟨ho, hcall⟩ := h₁
  simp only [hplain, List.any_nil, Bool.or_false]
  refine wpAny_bind (m := keeperOf (.ref u)) ?_
  unfold keeperOf
  refine wpAny_bind (wpAny_load ho ?_)
  simp only [show (Value.type "builtin_function_or_method" != Value.type "method") = true by decide, show (Value.type "builtin_function_or_method" == Value.type "builtin_function_or_method" || Value.type "builtin_function_or_method" == Value.type "method-wrapper") = true by decide, if_true]
  refine wpAny_pure ?_
  exact wpAny_bind (wpAny_mono hcall (fun r s₂ hr => wpAny_bind (wpAny_holding (wpAny_point (wpAny_pure hr)))) fun _ _ x => x)
end
end Mine
namespace Mine
section
variable {prog : Program} {w : World} {A : Around} {E : Value → Shared → Prop} {s : Shared}
abbrev freshSet (led : Bool) : Obj := { cls := .type "set", dict := none, data := .set #[] 0 (.fresh 0 0 led) }

theorem call_set_open {r : Addr} {Q : Value → Shared → Prop}
    (h : ∀ led : Bool, wpAny (model prog w) A.in1.in1 (Builtin.Frozenset.updateFrom "set.__init__" s.heap.objs.size (.ref r)) (fun _ s' => Q (.ref s.heap.objs.size) s') E { s with heap := s.heap.push (freshSet led) }) :
    wpAny (model prog w) A (call (.type "set") [.ref r]) Q E s := by
  obtain ⟨c, tl, hmro⟩ := F.called_set.mro
  have hmade := F.called_set.made
  have hsub := F.called_set.sub
  refine wpAny_call (codeAny_of_tree ?_)
  show wpAny _ _ (callAny (.type "set") _) _ _ _
  refine wpAny_pure ⟨Code.quiet_builtin _ (by decide +kernel), codeAny_builtin F.entry_type_call ?_⟩
  rw [Around.under_plain (weight_type_call_type "set" [.ref r] []) rfl]
  have h1 := F.called_set.notType
  have h2 := F.called_set.canCreate
  have hct := F.typeCall_set_1 (.ref r)
  repeat (any_goals (first | assumption | wp_step))
  refine codeAny_mono (code_set_new_1 (.ref r) (E := E) (Q₁ := fun obj s₁ => ∃ led : Bool, obj = .ref s.heap.objs.size ∧ s₁ = { s with heap := s.heap.push (freshSet led) }) fun led => ⟨led, rfl, rfl⟩) fun res s₁ hr => ?_
  match res, hr with
  | .error e, hr => exact hr
  | .ok (.ret obj), hr =>
    obtain ⟨led, rfl, rfl⟩ := hr
    have hS : (s.heap.push (freshSet led)).get? s.heap.objs.size = some (freshSet led) := Heap.get?_push_size _ rfl
    have hT : Shared.TypeIs { s with heap := s.heap.push (freshSet led) } (.ref s.heap.objs.size) "set" := ⟨_, hS, rfl⟩
    have hli := F.called_set.init.lookup
    have hbi := F.called_set.init.bind (.ref s.heap.objs.size)
    repeat (any_goals (first | assumption | wp_step))
    refine codeAny_mono (codeAny_call_builtin (R := wants (fun r s₂ => r = .none ∧ Q (.ref s.heap.objs.size) s₂) E) F.called_set.init.plain F.entry_set_init (check_set_init_1 hT ?_)) fun r₂ s₂ hr₂ => ?_
    · unfold Builtin.«set.__init__»
      refine wpAny_bind (wpAny_of_eq (a := ()) (by first | rfl | kernel_rfl) ?_)
      dsimp only
      refine wpAny_bind (m := _) ?_
      unfold typeNameOfCut shownTypeOf
      refine wpAny_bind (wpAny_bind (wpAny_typeOf hT ?_))
      refine wpAny_of_eq (a := Value.type "set") (by first | rfl | kernel_rfl) ?_
      refine wpAny_of_eq (a := "set") (by first | rfl | kernel_rfl) ?_
      refine wpAny_bind (wpAny_of_eq (a := ()) (by first | rfl | kernel_rfl) ?_)
      refine wpAny_bind (wpAny_pure ?_)
      unfold setUsed
      refine wpAny_bind (wpAny_bind ?_)
      unfold setState
      refine wpAny_bind (wpAny_load hS ?_)
      dsimp only
      rw [if_neg (by cases led <;> decide)]
      refine wpAny_pure (wpAny_pure ?_)
      rw [if_neg (by cases led <;> decide)]
      refine wpAny_bind (wpAny_mono (h led) (fun _ s' hq => ?_) fun _ _ z => z)
      exact wpAny_pure ⟨rfl, hq⟩
    · match r₂, hr₂ with
      | .error e, hr₂ => exact hr₂
      | .ok (.ret v), hr₂ =>
        obtain ⟨rfl, hq⟩ := hr₂
        repeat (any_goals (first | assumption | wp_step))
      | .ok .next, hr => exact hr.elim
      | .ok .brk, hr => exact hr.elim
      | .ok .cont, hr => exact hr.elim
  | .ok .next, hr => exact hr.elim
  | .ok .brk, hr => exact hr.elim
  | .ok .cont, hr => exact hr.elim
end
end Mine
namespace Mine
section
variable {prog : Program} {w : World} {A : Around} {E : Value → Shared → Prop} {s : Shared}

/-- what set() is asked to read: a thing of a type that is neither set nor dict -/
structure PlainSource (T : String) : Prop where
  noSet : isSubtype (.type T) (.type "set") = pure false
  noFrozen : isSubtype (.type T) (.type "frozenset") = pure false
  noDict : (Value.type T == Value.type "dict") = false
theorem source_list : PlainSource "list" := ⟨F.sub_list_set, F.sub_list_frozenset, by decide⟩
theorem source_range : PlainSource "range" := ⟨by rw [isSubtype_type]; kernel_rfl, by rw [isSubtype_type]; kernel_rfl, by decide⟩

theorem updateFrom_open {S r : Addr} {T : String} {Q : Unit → Shared → Prop} (hT : s.TypeIs (.ref r) T) (P : PlainSource T)
    (h : wpAny (model prog w) A (pyIter (.ref r)) (fun it s' => codeAny (model prog w) A (.builtin "set.update.loop" ⟨[.ref S, it], []⟩) (fun res s'' => match res with | .ok (.ret _) => Q () s'' | .ok _ => False | .error e => E e s'') s') E s) :
    wpAny (model prog w) A (Builtin.Frozenset.updateFrom "set.__init__" S (.ref r)) Q E s := by
  unfold Builtin.Frozenset.updateFrom Builtin.Frozenset.isAnySet
  refine wpAny_bind ?_
  have h1 : wpAny (model prog w) A (isInstance (.ref r) (.type "set") <||> isInstance (.ref r) (.type "frozenset")) (fun b s' => b = false ∧ s' = s) E s := by
    show wpAny _ _ (do let b ← isInstance (.ref r) (.type "set"); match toBool b with | true => pure b | false => isInstance (.ref r) (.type "frozenset")) _ _ _
    refine wpAny_bind (wpAny_isInstance hT P.noSet ?_)
    exact wpAny_isInstance hT P.noFrozen ⟨rfl, rfl⟩
  refine wpAny_mono h1 ?_ fun _ _ z => z
  rintro b s' ⟨rfl, rfl⟩
  rw [if_neg Bool.false_ne_true]
  refine wpAny_bind (wpAny_typeOf hT ?_)
  rw [if_neg (by rw [P.noDict]; exact Bool.false_ne_true)]
  refine wpAny_bind (wpAny_mono h (fun it s' hi => ?_) fun _ _ z => z)
  refine wpAny_bind (wpAny_runValue (codeAny_mono hi fun res s'' hr => ?_))
  match res, hr with
  | .error e, hr => exact hr
  | .ok (.ret _), hr => exact wpAny_pure hr
  | .ok .next, hr => exact hr.elim
  | .ok .brk, hr => exact hr.elim
  | .ok .cont, hr => exact hr.elim

/-- set(list of ints) -/
theorem call_set_ints_range {r : Addr} {a b c : Int} {t u v : Tok} {n : Nat} {Q : Value → Shared → Prop} (hh : A.handled = none) (hr : IsRange s.heap r a b c t u v) (hsm : Builtin.Range.small a b c = true)
    (hn : Builtin.Range.rangeSize a b c = (n : Int)) (hb : n + 1 < scanBound)
    (h : ∀ (h' : Heap) (tk : Nat), h'.SetOf (intKind prog w) s.heap.objs.size (fun k' => (firstMet (fun i => a + i * c) n).any (· == k')) (firstMet (fun i => a + i * c) n).length →
      (∀ b o, s.heap.get? b = some o → h'.get? b = some o) → s.toks ≤ tk → Q (.ref s.heap.objs.size) { s with heap := h', toks := tk }) :
    wpAny (model prog w) A (call (.type "set") [.ref r]) Q E s := by
  refine call_set_open fun led => ?_
  have hr' : IsRange (s.heap.push (freshSet led)) r a b c t u v := Heap.get?_push_of_some _ hr
  have hS : (s.heap.push (freshSet led)).get? s.heap.objs.size = some (freshSet led) := Heap.get?_push_size _ rfl
  refine updateFrom_open (s := { s with heap := s.heap.push (freshSet led) }) ⟨_, hr', rfl⟩ source_range ?_
  refine wpAny_pyIter_range (s := { s with heap := s.heap.push (freshSet led) }) hr' hsm ?_
  have hlt : s.heap.objs.size < (s.heap.push (freshSet led)).objs.size := by rw [Heap.size_push]; exact Nat.lt_succ_self _
  have hSf : s.heap.objs.size ∉ [(s.heap.push (freshSet led)).objs.size] := by simp only [List.mem_singleton]; exact Nat.ne_of_lt hlt
  refine codeAny_set_update_loopS ((Walks.range (prog := prog) (w := w) (A := A.in1.in1.in1) hh (s.heap.push (freshSet led)).objs.size a c n).toS) s.heap.objs.size hSf (fun i => a + i * c) (fun i v hv => hv) hb n 0 _ (by omega) (Nat.zero_le _) ?st ?S0 ?R
  case st =>
    show IsRangeIter _ _ (a + ((0 : Nat) : Int) * c) ((n : Int) - ((0 : Nat) : Int)) c
    have := Heap.get?_push_size (s.heap.push (freshSet led)) (o := { cls := .type "range_iterator", data := .fields #[rawInt a, rawInt (Builtin.Range.rangeSize a b c), rawInt c] }) rfl
    rw [hn] at this ⊢
    simpa using this
  case S0 => exact SetOf_congr ((setObjOf_fresh (knd := intKind prog w) led).setOf (Heap.get?_push_of_some _ hS) (by unfold scanBound; omega)) (fun _ => rfl) rfl
  case R =>
    intro s' hm hS'
    obtain ⟨h', g', d', tk', os'⟩ := s'
    have eg : g' = s.gens := hm.gens
    have ed : d' = s.drawn := hm.drawn
    have eo : os' = s.os := hm.os
    have et : s.toks ≤ tk' := hm.toks
    subst eg; subst ed; subst eo
    refine h h' tk' hS' (fun b o e => hm.heap b o ?_ (Heap.get?_push_of_some _ (Heap.get?_push_of_some _ e))) et
    have := Heap.lt_size e
    simp only [List.mem_cons, List.not_mem_nil, or_false, not_or, Heap.size_push]
    exact ⟨Nat.ne_of_lt this, Nat.ne_of_lt (Nat.lt_succ_of_lt this)⟩
end
end Mine
namespace Mine
/-- a set object that holds, of the ints, just those of S -/
def IsHas (so : Obj) (S : Int → Bool) : Prop := (∃ es ep t, so = { cls := .type "set", data := .set es ep t }) ∧ ∃ n, n < scanBound ∧ so.IntSetOf S n
theorem IsHas.shape {so : Obj} {S : Int → Bool} (x : IsHas so S) : ∃ es ep t, so = { cls := .type "set", data := .set es ep t } := x.1
theorem IsHas.congr {so : Obj} {S S' : Int → Bool} (x : IsHas so S) (e : ∀ k, S k = S' k) : IsHas so S' := by
  have : S = S' := funext e
  subst this; exact x
section
variable {prog : Program} {w : World} {A : Around} {E : Value → Shared → Prop} {s : Shared} {h₀ : Heap} {L : Addr} {m : Str → Option Value} {news : List (Addr × Obj)}
theorem IsHas.setOf {so : Obj} {S : Int → Bool} {h : Heap} {a : Addr} (x : IsHas so S) (ho : h.get? a = some so) : ∃ n, h.SetOf (intKind prog w) a S n := by
  obtain ⟨_, n, hb, hi⟩ := x
  exact ⟨n, (hi prog w).setOf ho hb⟩
theorem isHas_of {S : Int → Bool} {n : Nat} {h : Heap} {a : Addr} (x : h.SetOf (intKind prog w) a S n) : ∃ so, h.get? a = some so ∧ IsHas so S := by
  have hb : n < scanBound := by obtain ⟨_, _, _, _, _, _, _, _, _, hb, _, hn⟩ := x; exact hn ▸ hb
  obtain ⟨so, ho, hs⟩ := x.objOf
  refine ⟨so, ho, ?_, n, hb, hs.intSetOf⟩
  obtain ⟨⟨h1, h2, h3⟩, es, ep, t, hd, _⟩ := hs
  obtain ⟨c, d, dt, sl⟩ := so
  simp only at h1 h2 h3 hd
  subst h1; subst h2; subst h3; subst hd
  exact ⟨es, ep, t, rfl⟩

theorem Fr_keeps {h' : Heap} (F : Fr h₀ L s.heap m) (hk : ∀ b o, s.heap.get? b = some o → h'.get? b = some o) : Fr h₀ L h' m := F.keeps hk
theorem News_keeps {h' : Heap} (N : News h₀ L s.heap news) (hk : ∀ b o, s.heap.get? b = some o → h'.get? b = some o) : News h₀ L h' news := fun p hp => ⟨hk _ _ (N p hp).1, (N p hp).2⟩
theorem News_new {h' : Heap} {a : Addr} {o : Obj} (F : Fr h₀ L s.heap m) (N : News h₀ L s.heap news) (hk : ∀ b o, s.heap.get? b = some o → h'.get? b = some o) (hge : s.heap.objs.size ≤ a) (ho : h'.get? a = some o) :
    News h₀ L h' ((a, o) :: news) := by
  intro p hp
  rcases List.mem_cons.mp hp with rfl | hp
  · refine ⟨ho, ?_, ?_⟩
    · obtain ⟨oL, _, _, hL, _⟩ := F.ns
      exact Nat.ne_of_gt (Nat.lt_of_lt_of_le (Heap.lt_size hL) hge)
    · cases hq : h₀.get? a with
      | none => rfl
      | some o' => exact absurd (Nat.lt_of_lt_of_le (Heap.lt_size (F.keep _ _ hq)) hge) (Nat.lt_irrefl _)
  · exact ⟨hk _ _ (N p hp).1, (N p hp).2⟩

theorem set_range_N {r : Addr} {a b c : Int} {t u v : Tok} {n : Nat} {Q : Value → Shared → Prop} (F : Fr h₀ L s.heap m) (N : News h₀ L s.heap news) (hh : A.handled = none) (hr : IsRange s.heap r a b c t u v)
    (hsm : Builtin.Range.small a b c = true) (hn : Builtin.Range.rangeSize a b c = (n : Int)) (hb : n + 1 < scanBound)
    (h : ∀ S so h' tk, Fr h₀ L h' m → News h₀ L h' ((S, so) :: news) → (∀ p ∈ news, p.1 < S) → IsHas so (fun k' => (firstMet (fun i => a + i * c) n).any (· == k')) → Q (.ref S) { s with heap := h', toks := tk }) :
    wpAny (model prog w) A (call (.type "set") [.ref r]) Q E s := by
  refine call_set_ints_range hh hr hsm hn hb fun h' tk hS hk _ => ?_
  obtain ⟨so, ho, hs⟩ := isHas_of hS
  exact h _ so h' tk (F.keeps hk) (News_new F N hk (Nat.le_refl _) ho) (fun p hp => Heap.lt_size (N p hp).1) hs

theorem getAttr_has_N {S : Addr} {so : Obj} {Sf : Int → Bool} {expr : Bool} {Q : Value → Shared → Prop} (F : Fr h₀ L s.heap m) (N : News h₀ L s.heap news) (hm : (S, so) ∈ news) (hs : IsHas so Sf)
    (h : ∀ b h', Fr h₀ L h' m → News h₀ L h' ((b, boundHas S) :: news) → (∀ p ∈ news, p.1 < b) → Q (.ref b) { s with heap := h', toks := s.toks + 1 }) :
    wpAny (model prog w) A (getAttr (.ref S) "__contains__" expr) Q E s := by
  obtain ⟨es, ep, t, rfl⟩ := hs.shape
  exact getAttr_set_has (N _ hm).1 (h _ _ (F.push _) (N.push F _) fun p hp => Heap.lt_size (N p hp).1)

/-- a thing that iter() hands back as it is -/
def SelfIter (prog : Program) (w : World) (v : Value) (h : Heap) : Prop :=
  ∀ (A : Around) (Q : Value → Shared → Prop) (E : Value → Shared → Prop) (s : Shared), A.depth + 8 < recursionLimit → A.units + 64 < cLine → (∀ b o, h.get? b = some o → s.heap.get? b = some o) →
    (∀ tk h', (∀ b o, s.heap.get? b = some o → h'.get? b = some o) → Q v { s with heap := h', toks := tk }) → wpAny (model prog w) A (pyIter v) Q E s
theorem SelfIter.keeps {v : Value} {h h' : Heap} (x : SelfIter prog w v h) (hk : ∀ b o, h.get? b = some o → h'.get? b = some o) : SelfIter prog w v h' :=
  fun A Q E s a b k q => x A Q E s a b (fun b o e => k b o (hk b o e)) q
theorem selfIter_listiter {it l : Addr} {i : Nat} {h : Heap} (hit : h.IsListIter it l i) : SelfIter prog w (.ref it) h :=
  fun A Q E s _ _ k q => wpAny_pyIter_listiter (hit.at fun o e => k _ _ e) (q s.toks s.heap fun _ _ e => e)

theorem args_iter1 (a : Value) : argsOk "iter" ⟨[a], []⟩ := by unfold argsOk; kernel_rfl
theorem entry_iter : entryFor table "iter" = some Builtin.«iter» := by first | exact entryFor_of_fast (by kernel_rfl) | exact entryFor_of_tree (by kernel_rfl)
theorem iter_open {v : Value} {Q : Value → Shared → Prop} (h : wpAny (model prog w) A.in1 (pyIter v) Q E s) : wpAny (model prog w) A (call (.builtin "iter") [v]) Q E s := by
  refine call_function_entry (by decide +kernel) (by decide +kernel) entry_iter (args_iter1 _) ?_
  unfold Builtin.«iter»
  refine wpAny_bind (m := someArgs "iter" 1 2 _) (wpAny_of_eq (a := [v]) (by first | rfl | kernel_rfl) ?_)
  dsimp only
  exact wpAny_bind (wpAny_mono h (fun r s' hr => wpAny_pure ⟨_, rfl, hr⟩) fun _ _ z => z)
theorem iter_self_N {v : Value} {Q : Value → Shared → Prop} (F : Fr h₀ L s.heap m) (N : News h₀ L s.heap news) (hv : SelfIter prog w v s.heap) (hd : A.depth + 8 < recursionLimit) (hu : A.units + 65 < cLine)
    (h : ∀ h' tk, Fr h₀ L h' m → News h₀ L h' news → Q v { s with heap := h', toks := tk }) : wpAny (model prog w) A (call (.builtin "iter") [v]) Q E s :=
  iter_open (hv A.in1 Q E s hd (by show A.units + 1 + 64 < cLine; omega) (fun _ _ e => e) fun tk h' hk => h h' tk (F.keeps hk) (News_keeps N hk))
theorem iter_list_N {l : Addr} {items : Array Value} {Q : Value → Shared → Prop} (F : Fr h₀ L s.heap m) (N : News h₀ L s.heap news) (hl : s.heap.IsList l items)
    (h : ∀ I h', Fr h₀ L h' m → News h₀ L h' ((I, { cls := .type "list_iterator", data := .fields #[.ref l, .int 0 0] }) :: news) → (∀ p ∈ news, p.1 < I) → Q (.ref I) { s with heap := h' }) : wpAny (model prog w) A (call (.builtin "iter") [.ref l]) Q E s :=
  iter_open (wpAny_pyIter_list hl (h _ _ (F.push _) (N.push F _) fun p hp => Heap.lt_size (N p hp).1))
end
end Mine
namespace Mine
section
variable {prog : Program} {w : World} {A : Around} {E : Value → Shared → Prop} {s : Shared}
theorem entry_next : entryFor table "next" = some Builtin.«next» := by first | exact entryFor_of_fast (by kernel_rfl) | exact entryFor_of_tree (by kernel_rfl)
theorem args_next1 (a : Value) : argsOk "next" ⟨[a], []⟩ := by unfold argsOk; kernel_rfl
theorem args_next2 (a b : Value) : argsOk "next" ⟨[a, b], []⟩ := by unfold argsOk; kernel_rfl
/-- a thing whose class has a __next__ -/
def HasNext (M : Model) (v : Value) (h : Heap) : Prop := ∃ g, Looks M h (specialOf v "__next__") (some g)
theorem hasNext_listiter {M : Model} {it l : Addr} {i : Nat} {h : Heap} (hit : h.IsListIter it l i) : HasNext M (.ref it) h :=
  ⟨_, fun A Q E s k q => wpAny_specialOf (name := "__next__") (T := "list_iterator") (by obtain ⟨o, ho, hc, _⟩ := hit; exact ⟨o, k _ _ ho, hc⟩) PySem.slot_listiter_next.lookup q⟩
theorem next_open1 {v : Value} {Q : Value → Shared → Prop} (hn : HasNext (model prog w) v s.heap) (h : wpAny (model prog w) A.in1 (callSpecial? v "__next__") (fun r s' => ∃ x, r = some x ∧ Q x s') E s) :
    wpAny (model prog w) A (call (.builtin "next") [v]) Q E s := by
  obtain ⟨g, hg⟩ := hn
  refine call_function_entry (by decide +kernel) (by decide +kernel) entry_next (args_next1 _) ?_
  unfold Builtin.«next»
  refine wpAny_bind (m := someArgs "next" 1 2 _) (wpAny_of_eq (a := [v]) (by first | rfl | kernel_rfl) ?_)
  dsimp only
  refine wpAny_bind (hg.here ?_)
  rw [if_neg (by simp)]
  refine wpAny_bind (wpAny_mono h (fun r s' hr => ?_) fun _ _ z => z)
  obtain ⟨x, rfl, hq⟩ := hr
  exact wpAny_pure ⟨_, rfl, hq⟩
theorem next_open2 {v d : Value} {Q : Value → Shared → Prop} (hn : HasNext (model prog w) v s.heap) (h : wpAny (model prog w) A.in1 (pyNext v) (fun r s' => Q (r.getD d) s') E s) :
    wpAny (model prog w) A (call (.builtin "next") [v, d]) Q E s := by
  obtain ⟨g, hg⟩ := hn
  refine call_function_entry (by decide +kernel) (by decide +kernel) entry_next (args_next2 _ _) ?_
  unfold Builtin.«next»
  refine wpAny_bind (m := someArgs "next" 1 2 _) (wpAny_of_eq (a := [v, d]) (by first | rfl | kernel_rfl) ?_)
  dsimp only
  refine wpAny_bind (hg.here ?_)
  rw [if_neg (by simp)]
  exact wpAny_bind (wpAny_mono h (fun r s' hr => wpAny_pure ⟨_, rfl, hr⟩) fun _ _ z => z)

/-- the list iterator's own __next__, an item -/
theorem listiter_item {it l : Addr} {i : Nat} {items : Array Value} {x : Value} {Q : Option Value → Shared → Prop} (hit : s.heap.IsListIter it l i) (hl : s.heap.IsList l items) (hx : items[i]? = some x)
    (hQ : ∀ h', h'.IsListIter it l (i + 1) → Heap.SameBut it s.heap h' → Q (some x) { s with heap := h' }) : wpAny (model prog w) A (callSpecial? (.ref it) "__next__") Q E s := by
  obtain ⟨o, ho, hc, hd⟩ := id hit
  obtain ⟨ol, hol, _, nl, hdl⟩ := hl
  refine wpAny_callSpecial?_slot (name := Str.ofString "__next__") hit.typeIs PySem.slot_listiter_next (wpAny_call_entry PySem.slot_listiter_next hit.typeIs PySem.entry_listiter_next ?_ (PySem.args_listiter_next _))
  show wpAny _ _ (field (.ref it) 0 >>= _) _ _ s
  refine wpAny_bind (wpAny_field ho hd (x := .ref l) rfl ?_)
  show wpAny _ _ (if (Value.ref l == Value.none) = true then _ else _) _ _ s
  rw [if_neg (show ¬ ((Value.ref l == Value.none) = true) from Bool.false_ne_true)]
  show wpAny _ _ (field (.ref it) 1 >>= _) _ _ s
  refine wpAny_bind (wpAny_field ho hd (x := .int i 0) rfl ?_)
  show wpAny _ _ (seqItems? (.ref l) >>= _) _ _ s
  refine wpAny_bind (wpAny_seqItems hol hdl ?_)
  simp only [Int.toNat_natCast, hx]
  refine wpAny_bind (wpAny_setField ho hd (by simp) (wpAny_pure ⟨x, rfl, hQ _ ?_ (Heap.SameBut.update ..)⟩))
  exact ⟨_, Heap.get?_update_self _ ho (Obj.isFreed_of_fields (Obj.data_mapFields hd _)), (Obj.cls_mapFields ..).trans hc, by rw [Obj.data_mapFields hd]; simp [rawInt]⟩

/-- a new exception object, that no frame has been noted upon -/
structure FreshExc (h₁ h' : Heap) (e : Addr) (X : String) : Prop where
  keeps : ∀ b o, h₁.get? b = some o → h'.get? b = some o
  new : h₁.get? e = none
  there : ∃ oe vs a0, h'.get? e = some oe ∧ oe.cls = .type X ∧ oe.data = .fields vs ∧ vs[1]? = some .none ∧ vs[0]? = some a0
theorem get_none_of_le {h : Heap} {a : Addr} (hge : h.objs.size ≤ a) : h.get? a = none := by
  cases e : h.get? a with
  | none => rfl
  | some o => exact absurd (Heap.lt_size e) (Nat.not_lt.mpr hge)
/-- the list iterator's own __next__ at its end: a new StopIteration -/
theorem listiter_end {it l : Addr} {i : Nat} {items : Array Value} {Q : Option Value → Shared → Prop} (hh : A.handled = none) (hit : s.heap.IsListIter it l i) (hl : s.heap.IsList l items) (hx : items[i]? = none)
    (hE : ∀ h₁ h' e, Heap.SameBut it s.heap h₁ → FreshExc h₁ h' e "StopIteration" → E (.ref e) { s with heap := h' }) : wpAny (model prog w) A (callSpecial? (.ref it) "__next__") Q E s := by
  obtain ⟨o, ho, hc, hd⟩ := id hit
  obtain ⟨ol, hol, _, nl, hdl⟩ := hl
  refine wpAny_callSpecial?_slot (name := Str.ofString "__next__") hit.typeIs PySem.slot_listiter_next (wpAny_call_entry PySem.slot_listiter_next hit.typeIs PySem.entry_listiter_next ?_ (PySem.args_listiter_next _))
  show wpAny _ _ (field (.ref it) 0 >>= _) _ _ s
  refine wpAny_bind (wpAny_field ho hd (x := .ref l) rfl ?_)
  show wpAny _ _ (if (Value.ref l == Value.none) = true then _ else _) _ _ s
  rw [if_neg (show ¬ ((Value.ref l == Value.none) = true) from Bool.false_ne_true)]
  show wpAny _ _ (field (.ref it) 1 >>= _) _ _ s
  refine wpAny_bind (wpAny_field ho hd (x := .int i 0) rfl ?_)
  show wpAny _ _ (seqItems? (.ref l) >>= _) _ _ s
  refine wpAny_bind (wpAny_seqItems hol hdl ?_)
  simp only [Int.toNat_natCast, hx]
  refine wpAny_bind (wpAny_rule (wpAny_bind (wpAny_setField ho hd (by simp) ?_)))
  show wpAny _ _ (newExc (.type "StopIteration") [] >>= _) _ _ _
  refine wpAny_bind ?_
  simp only [newExc, newTuple]
  refine wpAny_bind (wpAny_newObj_type ?_ (by size_fits))
  refine wpAny_bind (m := firstArgMember _ _) (wpAny_of_eq (a := Value.none) (by first | rfl | (simp only [firstArgMember]; rfl)) ?_)
  refine wpAny_newObj_type ?_ (by size_fits)
  simp only [raiseNew]
  refine wpAny_bind (wpAny_handled ?_)
  rw [show A.in1.handled = none from hh]
  refine wpAny_bind (wpAny_pure (wpAny_throw ?_))
  refine hE (s.heap.update it (Obj.mapFields fun x => x.setIfInBounds 0 Value.none)) _ _ (Heap.SameBut.update ..) ⟨fun b o' e => Heap.get?_push_of_some _ (Heap.get?_push_of_some _ e), ?_, ?_⟩
  · exact get_none_of_le (by rw [Heap.size_push]; exact Nat.le_succ _)
  · exact ⟨_, _, _, Heap.get?_push_size _ rfl, rfl, rfl, by simp [Array.getElem?_append], by simp [Array.getElem?_append]; rfl⟩
end
end Mine
namespace Mine
abbrev framesOf (fr : List Env) : List Addr := fr.filterMap (·.frame)
/-- from the heap h, at a call, to h', where the exception flies out of it: what stood is as it was, but for I and the frames' slots -/
structure Raised (fr : List Env) (h h' : Heap) (I e : Addr) (X : String) : Prop where
  slots : ∀ b o, b ∈ framesOf fr → h.get? b = some o → ∃ sl, h'.get? b = some { o with slots := sl }
  state : (∃ h₁, (∀ b o, b ≠ I → h.get? b = some o → h₁.get? b = some o) ∧ FreshExc h₁ h' e X) ∨
    (∃ B a0, (∀ b o, b ∉ framesOf fr → b ≠ I → h.get? b = some o → B.get? b = some o) ∧ Heap.FlyingW B fr e (.type X) a0 h')
theorem Raised.keeps {fr : List Env} {h h' : Heap} {I e : Addr} {X : String} (R : Raised fr h h' I e X) {b : Addr} {o : Obj} (hb : b ∉ framesOf fr) (hI : b ≠ I) (ho : h.get? b = some o) : h'.get? b = some o := by
  rcases R.state with ⟨h₁, k, F⟩ | ⟨B, a0, k, F⟩
  · exact F.keeps b o (k b o hI ho)
  · exact F.1 b o (k b o hb hI ho)
theorem Raised.isExc {fr : List Env} {h h' : Heap} {I e : Addr} {X : String} (R : Raised fr h h' I e X) : ∃ o, h'.get? e = some o ∧ o.cls = .type X := by
  rcases R.state with ⟨h₁, k, F⟩ | ⟨B, a0, k, F⟩
  · obtain ⟨oe, vs, a0, he, hc, _⟩ := F.there
    exact ⟨oe, he, hc⟩
  · exact F.there

section
variable {M : Model} {A : Around} {E : Value → Shared → Prop} {s' : Shared}
theorem Raised.leave {env : Env} {fr : List Env} {L I e : Addr} {h h₂ base₀ : Heap} {X : String} {m : Str → Option Value} {Q : Unit → Shared → Prop} {oI oI2 : Obj} {vI vI2 : Array Value}
    (hfr : A.frames = some (env :: fr)) (hf : env.frame = some L) (hk : env.scope.kind ≠ .module) (hl : h.FunFrames base₀ fr) (hI : h.get? I = some oI) (hId : oI.data = .fields vI) (hI2 : h₂.get? I = some oI2) (hId2 : oI2.data = .fields vI2)
    (hL : h.get? L = none) (hn : h₂.Ns L m) (h12 : ∀ b o, b ≠ I → h.get? b = some o → h₂.get? b = some o) (R : Raised (env :: fr) h₂ s'.heap I e X)
    (hQ : ∀ h'', Raised fr h h'' I e X → Q () { s' with heap := h'' }) : wpAny M A (leaving env (.ref e)) Q E s' := by
  have hLI : L ≠ I := by rintro rfl; rw [hL] at hI; cases hI
  have hmem : framesOf (env :: fr) = L :: framesOf fr := by show List.filterMap _ _ = _; rw [List.filterMap_cons, hf]
  have frI : ∀ b ∈ framesOf fr, b ≠ I := by
    rintro b hb rfl
    obtain ⟨_, o, ho, hnf⟩ := hl.mem hb
    rw [hI] at ho; cases ho
    exact hnf _ hId
  have frO : ∀ b ∈ framesOf fr, ∃ o, h.get? b = some o ∧ h₂.get? b = some o ∧ ∀ vs, o.data ≠ .fields vs := by
    intro b hb
    obtain ⟨_, o, ho, hnf⟩ := hl.mem hb
    exact ⟨o, ho, h12 b o (frI b hb) ho, hnf⟩
  have notL : ∀ b o, h.get? b = some o → b ≠ L := by rintro b o e rfl; rw [hL] at e; cases e
  rcases R.state with ⟨h₃, k3, F⟩ | ⟨B, a0, kB, F⟩
  · -- the exception is new here
    have hl₂ : h₂.FunFrames base₀ fr := hl.of_keeps fun b o hb hnf => ⟨o, h12 b o (by rintro rfl; rw [hI] at hb; cases hb; exact hnf _ hId) hb, rfl⟩
    obtain ⟨oL, esL, epL, hoL, hdL, _⟩ := id hn
    have hl₃ : h₃.FunFrames base₀ fr := hl₂.of_keeps fun b o hb hnf => by
      by_cases q : b = I
      · exfalso
        subst q
        rw [hI2] at hb; cases hb
        exact hnf _ hId2
      · exact ⟨o, k3 b o q hb, rfl⟩
    have hn₃ : h₃.Ns L m := hn.at' fun o e => k3 L o hLI e
    have hin : ∀ env' ∈ fr, ∀ a, env'.frame = some a → a ∈ framesOf (env :: fr) := fun env' he a ha => by
      rw [hmem]; exact List.mem_cons_of_mem _ (List.mem_filterMap.mpr ⟨env', he, ha⟩)
    have H₃ : h₃.FunFrames (hideAll h₃ (framesOf (env :: fr))) (env :: fr) :=
      Heap.FunFrames.cons hk hf hn₃ (hideAll_none _ (by rw [hmem]; exact List.mem_cons_self)) (by
        have hh : ∀ (l : List Env), h₃.FunFrames base₀ l → (∀ env' ∈ l, ∀ a, env'.frame = some a → a ∈ framesOf (env :: fr)) → h₃.FunFrames (hideAll h₃ (framesOf (env :: fr))) l := fun l => funFrames_hide
        exact hh fr hl₃ hin)
    have H' := H₃.of_keeps fun b o hb _ => ⟨o, F.keeps b o hb, rfl⟩
    obtain ⟨oe, vs, a0, he, hc, hd, h1, h0⟩ := F.there
    have hen : (hideAll h₃ (framesOf (env :: fr))).get? e = none := by
      cases q : (hideAll h₃ (framesOf (env :: fr))).get? e with
      | none => rfl
      | some o => have := of_hideAll _ q; rw [F.new] at this; cases this
    refine wpAny_leaving_firstW hfr H' hf he (fun b o q => F.keeps b o (of_hideAll _ q)) hen hd h1 h0 fun h'' hLW => ?_
    obtain ⟨w1, ⟨_, _, w2⟩, w3, w4⟩ := hLW
    refine hQ h'' ⟨?_, .inr ⟨hideAll h₃ (framesOf (env :: fr)), a0, ?_, w1, hen, w2, by rw [← hc]; exact w3⟩⟩
    · intro b o hb ho
      obtain ⟨o', ho', ho2, hnf⟩ := frO b hb
      rw [ho] at ho'; cases ho'
      exact w4 b o (F.keeps b o (k3 b o (frI b hb) ho2)) hnf
    · intro b o hb hbI ho
      exact hideAll_get _ (k3 b o hbI (h12 b o hbI ho)) (by rw [hmem]; exact fun q => (List.mem_cons.mp q).elim (notL b o ho) hb)
  · -- it has been noted by an inner frame
    refine wpAny_leaves_onW hfr hf F fun h'' hfl hup => hQ h'' ⟨?_, .inr ⟨B, a0, ?_, hfl⟩⟩
    · intro b o hb ho
      obtain ⟨o', ho', ho2, hnf⟩ := frO b hb
      rw [ho] at ho'; cases ho'
      obtain ⟨sl, hs⟩ := R.slots b o (by rw [hmem]; exact List.mem_cons_of_mem _ hb) ho2
      obtain ⟨sl', hs'⟩ := hup b _ hs (by intro vs; exact hnf vs)
      exact ⟨sl', hs'⟩
    · intro b o hb hbI ho
      exact kB b o (by rw [hmem]; exact fun q => (List.mem_cons.mp q).elim (notL b o ho) hb) hbI (h12 b o hbI ho)
end
end Mine
namespace Mine
noncomputable abbrev KF (w : World) : Frag := hd.heap_39 w.params
abbrev PP : Program := PySem.Challenge.rw_kn0115_02.row.prog
abbrev ffObj (dx : Addr) (it : Value) (b : Addr) : Obj := { cls := .ref 47, dict := some dx, data := .plain, slots := #[some (.ref b), some it] }
def ChainAt (h : Heap) (I : Addr) : List (Int → Bool) → Value → Prop
  | [], v => v = .ref I
  | Sf :: r, v => ∃ x dx b S so it, v = .ref x ∧ h.get? x = some (ffObj dx it b) ∧ h.get? dx = some (dictOf [] 0) ∧ h.get? b = some (boundHas S) ∧ h.get? S = some so ∧ IsHas so Sf ∧ ChainAt h I r it
theorem ChainAt.move {h h' : Heap} {I : Addr} {oI : Obj} (hI : h.get? I = some oI) (hc : oI.cls = .type "list_iterator") (k : ∀ b o, b ≠ I → h.get? b = some o → h'.get? b = some o) :
    ∀ {fs : List (Int → Bool)} {v : Value}, ChainAt h I fs v → ChainAt h' I fs v
  | [], _, e => e
  | _ :: _, _, ⟨x, dx, b, S, so, it, e, h1, h2, h3, h4, h5, h6⟩ => by
    have ne : ∀ {a : Addr} {o : Obj}, h.get? a = some o → o.cls ≠ .type "list_iterator" → a ≠ I := by
      rintro a o ho hne rfl
      rw [hI] at ho; cases ho
      exact hne hc
    obtain ⟨es, ep, t, rfl⟩ := h5.shape
    exact ⟨x, dx, b, S, _, it, e, k _ _ (ne h1 (by simp)) h1, k _ _ (ne h2 (by simp)) h2, k _ _ (ne h3 (by simp)) h3, k _ _ (ne h4 (by simp)) h4, h5, h6.move hI hc k⟩
theorem ffInst {h : Heap} {x dx : Addr} {it : Value} {b : Addr} (h1 : h.get? x = some (ffObj dx it b)) (h2 : h.get? dx = some (dictOf [] 0)) : InstAt h x (ffObj dx it b) 47 (some (dictOf [] 0)) := ⟨h1, rfl, rfl, h2⟩
section
variable {w : World} {A : Around} {E : Value → Shared → Prop} {s : Shared} {p : Program} {loose : List Str} {mg mb : Str → Option Value}

theorem get_func {x dx b : Addr} {it : Value} {expr : Bool} {Q : Value → Shared → Prop} (hX : (KF w).In s.heap) (h1 : s.heap.get? x = some (ffObj dx it b)) (h2 : s.heap.get? dx = some (dictOf [] 0)) (h : Q (.ref b) { s with toks := s.toks + 1 }) :
    wpAny (model PP w) A (getAttr (.ref x) "_func" expr) Q E s :=
  get_bind hX (ffInst h1 h2) (plainGet_of (name := "_it") (by kernel_rfl)).1 (findObj_data (a := .ref 48) (g := .builtin "member_descriptor.__get__") (by kernel_rfl) (by kernel_rfl) (by kernel_rfl) (by kernel_rfl)) (plainGet_of (name := "_func") (by kernel_rfl)).2
    (wpAny_call (slot_get (s := { s with toks := s.toks + 1 }) (i := 0) hX (ffInst h1 h2) (by kernel_rfl) rfl (handed_on rfl h)))
theorem get_it {x dx b : Addr} {it : Value} {expr : Bool} {Q : Value → Shared → Prop} (hX : (KF w).In s.heap) (h1 : s.heap.get? x = some (ffObj dx it b)) (h2 : s.heap.get? dx = some (dictOf [] 0)) (hi : handedIn it = true) (h : Q it { s with toks := s.toks + 1 }) :
    wpAny (model PP w) A (getAttr (.ref x) "_it" expr) Q E s :=
  get_bind hX (ffInst h1 h2) (plainGet_of (name := "_it") (by kernel_rfl)).1 (findObj_data (a := .ref 49) (g := .builtin "member_descriptor.__get__") (by kernel_rfl) (by kernel_rfl) (by kernel_rfl) (by kernel_rfl)) (plainGet_of (name := "_it") (by kernel_rfl)).2
    (wpAny_call (slot_get (s := { s with toks := s.toks + 1 }) (i := 1) hX (ffInst h1 h2) (by kernel_rfl) rfl (handed_on hi h)))
theorem next_name {env : Env} {pos : Pos} {Q : Value → Shared → Prop} (hX : (KF w).In s.heap) (T : TopRead p loose mg mb s.heap) (hk : env.scope.kind = .function) (hx : env.kindOf "next" = some .globalImplicit) (hg : env.globals = mainGlobals) (hb : env.builtins = builtinsNs) (h : Q (.builtin "next") s) :
    wpAny (model PP w) A (eval (.Name "next" pos) env) Q E s :=
  Name_function_global hk hx (loadGlobal_builtin (hg ▸ T.g) (mg_none_of hX T.g (by kernel_rfl)) (hb ▸ T.b) ((T.builtins _ (by decide)).trans (by boot_by_name)) h) (by decide)
theorem bool_name {env : Env} {pos : Pos} {Q : Value → Shared → Prop} (hX : (KF w).In s.heap) (T : TopRead p loose mg mb s.heap) (hk : env.scope.kind = .function) (hx : env.kindOf "bool" = some .globalImplicit) (hg : env.globals = mainGlobals) (hb : env.builtins = builtinsNs) (h : Q (.type "bool") s) :
    wpAny (model PP w) A (eval (.Name "bool" pos) env) Q E s :=
  Name_function_global hk hx (loadGlobal_builtin (hg ▸ T.g) (mg_none_of hX T.g (by kernel_rfl)) (hb ▸ T.b) ((T.builtins _ (by decide)).trans (by boot_by_name)) h) (by decide)
end
end Mine
namespace Mine
section
variable {w : World} {A : Around} {E : Value → Shared → Prop} {s : Shared} {p : Program} {loose : List Str} {mg mb : Str → Option Value}

/-- no filter of the chain takes a out -/
def Passes (fs : List (Int → Bool)) (a : Int) : Prop := ∀ f ∈ fs, f a = false
def valAt (items : Array Value) (j : Nat) : Int := match items[j]? with
  | some (.int a _) => a
  | _ => 0
/-- what the call of __next__ is to show: the first item from i on that passes, or none and the end -/
structure NextOk (fs : List (Int → Bool)) (items : Array Value) (I l : Addr) (i : Nat) (fr : List Env) (Q : Option Value → Shared → Prop) (E : Value → Shared → Prop) (s : Shared) : Prop where
  ok : ∀ j a t h' tk, i ≤ j → items[j]? = some (.int a t) → Passes fs a → (∀ k, i ≤ k → k < j → ¬ Passes fs (valAt items k)) → h'.IsListIter I l (j + 1) → (∀ b o, b ≠ I → s.heap.get? b = some o → h'.get? b = some o) →
    Q (some (.int a t)) { s with heap := h', toks := tk }
  stop : ∀ e h' tk, (∀ k, i ≤ k → k < items.size → ¬ Passes fs (valAt items k)) → Raised fr s.heap h' I e "StopIteration" → E (.ref e) { s with heap := h', toks := tk }

def AllInt (items : Array Value) : Prop := ∀ (j : Nat) (v : Value), items[j]? = some v → ∃ a t, v = Value.int a t

theorem callWith_bm1 {M : Model} {pos : Pos} {u S : Addr} {e : PySem.Expr} {rest : List PySem.Expr} {env : Env} {Q : Value → Shared → Prop}
    (h : wpAny M A (spliced (backTo pos (starEach (e :: rest) env))) (fun vs s₁ => s₁.heap.get? u = some (boundHas S) ∧ wpAny M A (call (.ref u) vs) Q E s₁) E s)
    (he : starEach (e :: rest) env = (false, eval e env) :: starEach rest env := by rfl) (hplain : (backTo pos (starEach rest env)).any (·.1) = false := by rfl) :
    wpAny M A (callWith pos (.ref u) [] (backTo pos (starEach (e :: rest) env)) []) Q E s := by
  rw [he] at h ⊢
  exact callWith_bm (by show (false || (backTo pos (starEach rest env)).any (·.1)) = false; rw [hplain]; rfl) (evalArgs_plain h)

theorem next_chain {I l : Addr} {items : Array Value} {h₀ : Heap} (hall : AllInt items) (hX₀ : (KF w).In h₀) (T₀ : TopRead p loose mg mb h₀) (hI₀ : h₀.get? I = none) : ∀ (fs : List (Int → Bool)) {v : Value} {A : Around} {fr : List Env} {i : Nat} {Q : Option Value → Shared → Prop} {E : Value → Shared → Prop} {s : Shared},
    (∀ b o, h₀.get? b = some o → s.heap.get? b = some o) → A.frames = some fr → s.heap.FunFrames {} fr → A.handled = none → A.depth + fs.length + 2 < recursionLimit →
    s.heap.IsListIter I l i → s.heap.IsList l items → ChainAt s.heap I fs v → NextOk fs items I l i fr Q E s → wpAny (model PP w) A (callSpecial? v "__next__") Q E s
  | [], v, A, fr, i, Q, E, s, hk₀, hfr, hfun, hh, hd, hit, hl, hc, hQ => by
    cases hc
    cases hx : items[i]? with
    | some v =>
      obtain ⟨a, t, rfl⟩ := hall i v hx
      refine listiter_item hit hl hx fun h' hit' hs => ?_
      exact hQ.ok i a t h' s.toks (Nat.le_refl _) hx (fun f hf => nomatch hf) (fun k h1 h2 => absurd h2 (Nat.not_lt.mpr h1)) hit' fun b o hb e => hs.extBut b o hb e
    | none =>
      refine listiter_end hh hit hl hx fun h₁ h' e hs hF => ?_
      refine hQ.stop e h' s.toks (fun k h1 h2 => ?_) ⟨fun b o hb ho => ?_, .inl ⟨h₁, fun b o hb e => hs.extBut b o hb e, hF⟩⟩
      · have : items.size ≤ i := by simpa using hx
        omega
      · obtain ⟨oI, hoI, _, hdI⟩ := hit
        obtain ⟨_, o', ho', hnf⟩ := hfun.mem hb
        have hbI : b ≠ I := by
          rintro rfl
          rw [hoI] at ho'; cases ho'
          exact hnf _ hdI
        exact ⟨o.slots, hF.keeps b o (hs.extBut b o hbI ho)⟩
  | Sf :: r, v, A, fr, i, Q, E, s, hk₀, hfr, hfun, hh, hd, hit, hl, hc, hQ => by
    obtain ⟨x, dx, b, S, so, it, rfl, h1, h2, h3, h4, h5, h6⟩ := hc
    have hX := hX₀.keeps hk₀
    have T := T₀.keeps hk₀
    have hf := hX 43 _ (rfl : (KF w).lookup 43 = some _)
    refine special_fn (f := 43) hX (ffInst h1 h2) (by kernel_rfl) (by kernel_rfl) ?_
    refine wpAny_call (codeAny_call_def (binds := [(("self" : Str), .ref x)]) (by omega) hf rfl T.nolimit (codeRec_of hX (by kernel_rfl)) rfl (BindsTo.of_eq rfl) (by decide) (locs rfl) ?_ rfl rfl rfl)
    intro h₁ hns hk
    dsimp only
    have hLn : s.heap.get? s.heap.objs.size = none := get_none_of_le (Nat.le_refl _)
    generalize s.heap.objs.size = L at hns hLn ⊢
    refine wpAny_execs_cons (wpAny_Assign_Name (Attribute_name ?_))
    refine wpAny_Name (wpAny_loadName_local rfl rfl hns (v := .ref x) rfl ?_)
    refine get_func (fun a o e => hk _ _ (hX a o e)) (hk _ _ h1) (hk _ _ h2) ?_
    refine wpAny_storeName_local rfl hns (fun h₂ hns₂ hs₂ => ?_) rfl
    dsimp only
    obtain ⟨oI, hoI, hcI, hdI⟩ := id hit
    obtain ⟨ol, hol, hcl, nl, hdl⟩ := id hl
    have hlI : l ≠ I := by rintro rfl; rw [hoI] at hol; cases hol; rw [hcI] at hcl; simp at hcl
    have notL : ∀ b o, s.heap.get? b = some o → b ≠ L := by rintro b o e rfl; rw [hLn] at e; cases e
    have k2 : ∀ b o, s.heap.get? b = some o → h₂.get? b = some o := fun b o e => hs₂.extBut b o (notL b o e) (hk b o e)
    refine wpAny_execs_cons (wpAny_While (codeAny_whileLoop (fun k s' => ∃ h' tk m' j, s' = { s with heap := h', toks := tk } ∧ h'.Ns L m' ∧ m' "self" = some (.ref x) ∧ m' "func" = some (.ref b) ∧ i ≤ j ∧ k = items.size - j ∧
      h'.IsListIter I l j ∧ (∀ b o, b ≠ I → s.heap.get? b = some o → h'.get? b = some o) ∧ (∀ n, i ≤ n → n < j → ¬ Passes (Sf :: r) (valAt items n))) ?turn (items.size - i)
      ⟨h₂, _, _, i, rfl, hns₂, rfl, rfl, Nat.le_refl _, rfl, hit.at fun o e => k2 I o e, fun b o _ e => k2 b o e, fun n h1 h2 => absurd h2 (Nat.not_lt.mpr h1)⟩))
    rintro k s' ⟨h', tk, m', j, rfl, hn, hm1, hm2, hij, rfl, hitj, hkj, hbj⟩
    refine wpAny_passesOwn PassesOwn.leaving (isTrue_plain (wpAny_Constant_bool (wpAny_truthy_bool ?_)))
    rw [if_pos rfl]
    refine wpAny_passesOwn PassesOwn.leaving (wpAny_execs_cons (wpAny_Assign_Name (Call_ ?_)))
    have hne : ∀ {a : Addr} {o : Obj}, s.heap.get? a = some o → o.cls ≠ .type "list_iterator" → a ≠ I := by
      rintro a o ho hne rfl
      rw [hoI] at ho; cases ho
      exact hne hcI
    have kk : ∀ {h'' : Heap}, (∀ b o, b ≠ I → s.heap.get? b = some o → h''.get? b = some o) → ∀ b o, h₀.get? b = some o → h''.get? b = some o := fun k b o e => k b o (by rintro rfl; rw [hI₀] at e; cases e) (hk₀ b o e)
    refine next_name (hX₀.keeps (kk hkj)) (T₀.keeps (kk hkj)) rfl rfl rfl rfl ?_
    refine PyProof.Rows.callWith_builtin1 ?_
    refine args_cons (Attribute_name (wpAny_Name (wpAny_loadName_local rfl rfl hn hm1 ?_)))
    refine get_it (hX₀.keeps (kk hkj)) (hkj _ _ (hne h1 (by simp)) h1) (hkj _ _ (hne h2 (by simp)) h2) ?_ ?_
    · cases r with
      | nil => cases h6; rfl
      | cons f r' => obtain ⟨_, _, _, _, _, _, rfl, _⟩ := h6; rfl
    refine args_nil ?_
    have hitT : h'.IsListIter I l j := hitj
    have h6' : ChainAt h' I r it := h6.move hoI hcI hkj
    have hnx : HasNext (model PP w) it h' := by
      cases r with
      | nil => cases h6; exact hasNext_listiter hitj
      | cons f r' =>
        obtain ⟨x', dx', b', S', so', it', rfl, g1, g2, _⟩ := h6'
        exact ⟨_, (ffInst g1 g2).type.andThen (looks_findIn (r := some (.ref 43)) (hX₀.keeps (kk hkj)) (by kernel_rfl))⟩
    refine next_open1 hnx ?_
    refine next_chain hall hX₀ T₀ hI₀ r (fr := _ :: fr) (i := j) (kk hkj) (by rw [Around.in1_frames]; exact Around.frames_deeper hfr) (.cons (by show ScopeKind.function ≠ ScopeKind.module; decide) rfl hn (get_none_of_le (Nat.zero_le _)) ?_) hh (by simp only [List.length_cons] at hd; show A.depth + 1 + r.length + 2 < recursionLimit; omega) hitj ?_ h6' ⟨?ok, ?stop⟩
    case ok =>
      intro j2 a t h'' tk2 hj2 hx hp hb2 hit2 hk2
      have hk02 : ∀ b o, b ≠ I → s.heap.get? b = some o → h''.get? b = some o := fun b o q e => hk2 b o q (hkj b o q e)
      have hn2 : h''.Ns L m' := hn.at' fun o e => hk2 L o (by rintro rfl; rw [hLn] at hoI; cases hoI) e
      refine ⟨_, rfl, wpAny_storeName_local rfl hn2 (fun h₃ hn₃ hs₃ => ?_) rfl⟩
      dsimp only
      have hk03 : ∀ b o, b ≠ I → s.heap.get? b = some o → h₃.get? b = some o := fun b o q e => hs₃.extBut b o (notL b o e) (hk02 b o q e)
      have hm1' : (fun y => if y = ("item" : Str) then some (Value.int a t) else m' y) "self" = some (.ref x) := by show (if ("self" : Str) = "item" then _ else _) = _; rw [if_neg (by decide)]; exact hm1
      have hm2' : (fun y => if y = ("item" : Str) then some (Value.int a t) else m' y) "func" = some (.ref b) := by show (if ("func" : Str) = "item" then _ else _) = _; rw [if_neg (by decide)]; exact hm2
      have hm3' : (fun y => if y = ("item" : Str) then some (Value.int a t) else m' y) "item" = some (Value.int a t) := by show (if ("item" : Str) = "item" then _ else _) = _; rw [if_pos rfl]
      refine wpAny_execs_cons (wpAny_If (isTrue_or (wpAny_isTrue_Compare1 (wpAny_Name (wpAny_loadName_local rfl rfl hn₃ hm2' (wpAny_Constant_none (wpAny_is_other (by rfl) (by simp) (wpAny_truthy_bool ?_))))))))
      rw [if_neg Bool.false_ne_true]
      refine isTrue_or (wpAny_isTrue_Compare1 (wpAny_Name (wpAny_loadName_local rfl rfl hn₃ hm2' (bool_name (hX₀.keeps (kk hk03)) (T₀.keeps (kk hk03)) rfl rfl rfl rfl (wpAny_is_other (by rfl) (by simp) (wpAny_truthy_bool ?_))))))
      rw [if_neg Bool.false_ne_true]
      refine isTrue_or_nil ?_
      rw [if_neg Bool.false_ne_true]
      refine wpAny_execs_cons (wpAny_If (isTrue_not (isTrue_plain (Call_ (wpAny_Name (wpAny_loadName_local rfl rfl hn₃ hm2' ?_))))))
      refine callWith_bm1 (S := S) (args_cons (wpAny_Name (wpAny_loadName_local rfl rfl hn₃ hm3' (args_nil ⟨hk03 _ _ (hne h3 (by simp)) h3, ?_⟩))))
      obtain ⟨nS, hSet⟩ := IsHas.setOf (prog := PP) (w := w) h5 (hk03 _ _ (hne h4 (by obtain ⟨_, _, _, rfl⟩ := h5.shape; simp)) h4)
      refine call_has (knd := intKind PP w) (k := a) (hk03 _ _ (hne h3 (by simp)) h3) (intKind_is _ _ _ _) rfl hSet ?_
      refine wpAny_truthy_bool ?_
      have hva : valAt items j2 = a := by unfold valAt; rw [hx]
      have hbig : ∀ n, i ≤ n → n < j2 → ¬ Passes (Sf :: r) (valAt items n) := fun n h1 h2 q => by
        by_cases hnj : n < j
        · exact hbj n h1 hnj q
        · exact hb2 n (by omega) h2 fun f hf => q f (List.mem_cons_of_mem _ hf)
      have hsz : j2 < items.size := (Array.getElem?_eq_some_iff.mp hx).1
      have hitj3 : h₃.IsListIter I l (j2 + 1) := hit2.at fun o e => hs₃.extBut I o (notL I _ hoI) e
      cases hSa : Sf a with
      | false =>
        rw [if_pos (by rfl)]
        refine wpAny_execs_cons (wpAny_Return_some (wpAny_Name (wpAny_loadName_local rfl rfl hn₃ hm3' ?_)))
        dsimp only
        exact hQ.ok j2 a t h₃ _ (by omega) hx (fun f hf => (List.mem_cons.mp hf).elim (fun e => e ▸ hSa) (hp f)) hbig hitj3 hk03
      | true =>
        rw [if_neg (by simp)]
        refine wpAny_execs_nil ?_
        dsimp only
        refine wpAny_execs_nil ?_
        dsimp only
        refine wpAny_execs_nil ?_
        dsimp only
        refine ⟨items.size - (j2 + 1), by omega, h₃, _, _, j2 + 1, rfl, hn₃, hm1', hm2', by omega, rfl, hitj3, hk03, fun n h1 h2 q => ?_⟩
        by_cases hnj : n = j2
        · subst hnj
          have := q Sf List.mem_cons_self
          rw [hva, hSa] at this; cases this
        · exact hbig n h1 (by omega) q
    case stop =>
      intro e h'' tk2 hb2 R
      obtain ⟨oI2, hoI2, _, hdI2⟩ := id hitj
      refine R.leave (s' := { s with heap := h'', toks := tk2 }) (Around.frames_deeper hfr) rfl (by show ScopeKind.function ≠ ScopeKind.module; decide) hfun hoI hdI hoI2 hdI2 hLn hn hkj fun h3 R3 => ?_
      refine hQ.stop e h3 tk2 (fun n h1 h2 q => ?_) R3
      by_cases hnj : n < j
      · exact hbj n h1 hnj q
      · exact hb2 n (by omega) h2 fun f hf => q f (List.mem_cons_of_mem _ hf)
    · exact hfun.of_keeps fun b o hb hnf => ⟨o, hkj b o (by rintro rfl; rw [hoI] at hb; cases hb; exact hnf _ hdI) hb, rfl⟩
    · exact hl.at fun o e => hkj l o hlI e
end
end Mine
namespace Mine
/-- the list iterator's object: it stands at i of l -/
def IsLI (o : Obj) (l : Addr) (i : Nat) : Prop := o.cls = .type "list_iterator" ∧ o.data = .fields #[.ref l, .int i 0]
theorem IsLI.at {h : Heap} {I l : Addr} {o : Obj} {i : Nat} (x : IsLI o l i) (ho : h.get? I = some o) : h.IsListIter I l i := ⟨o, ho, x.1, x.2⟩
/-- the chain's objects stand in the ledger -/
def ChainIn (news : List (Addr × Obj)) (I : Addr) : List (Int → Bool) → Value → Prop
  | [], v => v = .ref I
  | Sf :: r, v => ∃ x dx b S so it, v = .ref x ∧ (x, ffObj dx it b) ∈ news ∧ (dx, dictOf [] 0) ∈ news ∧ (b, boundHas S) ∈ news ∧ (S, so) ∈ news ∧ IsHas so Sf ∧ ChainIn news I r it
theorem ChainIn.mono {news news' : List (Addr × Obj)} {I : Addr} (k : ∀ p ∈ news, p ∈ news') : ∀ {fs : List (Int → Bool)} {v : Value}, ChainIn news I fs v → ChainIn news' I fs v
  | [], _, e => e
  | _ :: _, _, ⟨x, dx, b, S, so, it, e, h1, h2, h3, h4, h5, h6⟩ => ⟨x, dx, b, S, so, it, e, k _ h1, k _ h2, k _ h3, k _ h4, h5, h6.mono k⟩
theorem ChainIn.at {news : List (Addr × Obj)} {I : Addr} {h : Heap} (k : ∀ p ∈ news, h.get? p.1 = some p.2) : ∀ {fs : List (Int → Bool)} {v : Value}, ChainIn news I fs v → ChainAt h I fs v
  | [], _, e => e
  | _ :: _, _, ⟨x, dx, b, S, so, it, e, h1, h2, h3, h4, h5, h6⟩ => ⟨x, dx, b, S, so, it, e, k _ h1, k _ h2, k _ h3, k _ h4, h5, h6.at k⟩
theorem ChainAt.hasNext {w : World} {h : Heap} {I l : Addr} {i : Nat} (hX : (KF w).In h) (hit : h.IsListIter I l i) : ∀ {fs : List (Int → Bool)} {v : Value}, ChainAt h I fs v → HasNext (model PP w) v h
  | [], _, e => by cases e; exact hasNext_listiter hit
  | _ :: _, _, ⟨x, dx, b, S, so, it, e, h1, h2, _⟩ => by subst e; exact ⟨_, (ffInst h1 h2).type.andThen (looks_findIn (r := some (.ref 43)) hX (by kernel_rfl))⟩

section
variable {w : World} {A : Around} {E : Value → Shared → Prop} {s : Shared} {p : Program} {loose : List Str} {mg mb : Str → Option Value} {h₀ : Heap} {L : Addr} {m : Str → Option Value} {news own : List (Addr × Obj)}

theorem pyNext_chain {I l : Addr} {items : Array Value} {fs : List (Int → Bool)} {v : Value} {fr : List Env} {i : Nat} {Q : Option Value → Shared → Prop} (hall : AllInt items) (hX₀ : (KF w).In h₀) (T₀ : TopRead p loose mg mb h₀) (hI₀ : h₀.get? I = none)
    (hk₀ : ∀ b o, h₀.get? b = some o → s.heap.get? b = some o) (hfr : A.frames = some fr) (hfun : s.heap.FunFrames {} fr) (hh : A.handled = none) (hd : A.depth + fs.length + 2 < recursionLimit)
    (hit : s.heap.IsListIter I l i) (hl : s.heap.IsList l items) (hc : ChainAt s.heap I fs v)
    (ok : ∀ j a t h' tk, i ≤ j → items[j]? = some (.int a t) → Passes fs a → (∀ k, i ≤ k → k < j → ¬ Passes fs (valAt items k)) → h'.IsListIter I l (j + 1) → (∀ b o, b ≠ I → s.heap.get? b = some o → h'.get? b = some o) → Q (some (.int a t)) { s with heap := h', toks := tk })
    (stop : ∀ e h' tk, (∀ k, i ≤ k → k < items.size → ¬ Passes fs (valAt items k)) → Raised fr s.heap h' I e "StopIteration" → Q none { s with heap := h', toks := tk }) :
    wpAny (model PP w) A (pyNext v) Q E s := by
  unfold pyNext
  refine wpAny_bind (wpAny_attempt (next_chain hall hX₀ T₀ hI₀ fs hk₀ hfr hfun hh hd hit hl hc ⟨?_, ?_⟩))
  · intro j a t h' tk h1 h2 h3 h4 h5 h6
    exact wpAny_pure (ok j a t h' tk h1 h2 h3 h4 h5 h6)
  · intro e h' tk h1 R
    refine wpAny_bind (wpAny_isInstance (T := "StopIteration") (b := true) (s := { s with heap := h', toks := tk }) R.isExc PySem.isSubtype_stop ?_)
    exact wpAny_pure (stop e h' tk h1 R)

theorem Fr.raised {env : Env} {h' : Heap} {I e : Addr} {X : String} (F : Fr h₀ L s.heap m) (hf : env.frame = some L) (hI₀ : h₀.get? I = none) (R : Raised [env] s.heap h' I e X) : Fr h₀ L h' m := by
  obtain ⟨oL, es, ep, hL, hd, r⟩ := F.ns
  obtain ⟨sl, hs⟩ := R.slots L oL (by simp [framesOf, hf]) hL
  refine ⟨⟨_, es, ep, hs, hd, r⟩, fun b o e => ?_, F.above⟩
  refine R.keeps ?_ (by rintro rfl; rw [hI₀] at e; cases e) (F.keep b o e)
  simp only [framesOf, List.filterMap_cons, hf, List.filterMap_nil, List.mem_singleton]
  exact Nat.ne_of_lt (Nat.lt_of_lt_of_le (Heap.lt_size e) F.above)

/-- next(chain, default), in a frame that nothing stands around; the ledger has the iterator's object at its head -/
theorem next2_N {I l : Addr} {oI : Obj} {items : Array Value} {fs : List (Int → Bool)} {v d : Value} {env : Env} {i : Nat} {Q : Value → Shared → Prop} (hall : AllInt items) (F : Fr h₀ L s.heap m) (N : News h₀ L s.heap ((I, oI) :: news)) (hX₀ : (KF w).In h₀) (T₀ : TopRead p loose mg mb h₀)
    (hA : A.frames = some [env]) (hf : env.frame = some L) (hk : env.scope.kind ≠ .module) (hh : A.handled = none) (hd : A.depth + fs.length + 2 < recursionLimit)
    (hI : IsLI oI l i) (hl : s.heap.IsList l items) (hc : ChainIn ((I, oI) :: news) I fs v) (off : ∀ q ∈ news, q.1 ≠ I)
    (ok : ∀ j a t h' tk oI', i ≤ j → items[j]? = some (.int a t) → Passes fs a → (∀ k, i ≤ k → k < j → ¬ Passes fs (valAt items k)) → IsLI oI' l (j + 1) → Fr h₀ L h' m → News h₀ L h' ((I, oI') :: news) → Q (.int a t) { s with heap := h', toks := tk })
    (stop : ∀ h' tk, (∀ k, i ≤ k → k < items.size → ¬ Passes fs (valAt items k)) → Fr h₀ L h' m → News h₀ L h' news → Q d { s with heap := h', toks := tk }) :
    wpAny (model PP w) A (call (.builtin "next") [v, d]) Q E s := by
  have hmI := N _ List.mem_cons_self
  have hcA := hc.at fun q hq => (N q hq).1
  have hit := hI.at hmI.1
  have hLI : L ≠ I := Ne.symm hmI.2.1
  have hnotI : ∀ b o, h₀.get? b = some o → b ≠ I := by rintro b o e rfl; rw [hmI.2.2] at e; cases e
  refine next_open2 (hcA.hasNext (hX₀.keeps F.keep) hit) ?_
  refine pyNext_chain hall hX₀ T₀ hmI.2.2 F.keep (by rw [Around.in1_frames]; exact hA) (.cons (outer := []) hk hf F.ns (get_none_of_le (Nat.zero_le _)) trivial) hh hd hit hl hcA ?_ ?_
  · intro j a t h' tk h1 h2 h3 h4 h5 h6
    obtain ⟨oI', hoI', hc', hd'⟩ := h5
    refine ok j a t h' tk oI' h1 h2 h3 h4 ⟨hc', hd'⟩ ⟨F.ns.at' fun o e => h6 L o hLI e, fun b o e => h6 b o (hnotI b o e) (F.keep b o e), F.above⟩ fun q hq => ?_
    rcases List.mem_cons.mp hq with rfl | hq
    · exact ⟨hoI', hmI.2⟩
    · exact ⟨h6 _ _ (off q hq) (N q (List.mem_cons_of_mem _ hq)).1, (N q (List.mem_cons_of_mem _ hq)).2⟩
  · intro e h' tk h1 R
    refine stop h' tk h1 (Fr.raised F hf hmI.2.2 R) fun q hq => ?_
    have hq' := N q (List.mem_cons_of_mem _ hq)
    refine ⟨R.keeps ?_ (off q hq) hq'.1, hq'.2⟩
    simp only [framesOf, List.filterMap_cons, hf, List.filterMap_nil, List.mem_singleton]
    exact hq'.2.1
end
end Mine
namespace Mine
section
variable {w : World} {p : Program} {loose : List Str} {mg mb : Str → Option Value} {h : Heap}
theorem selfIter_ff {x dx b : Addr} {it : Value} (hX : (KF w).In h) (T : TopRead p loose mg mb h) (h1 : h.get? x = some (ffObj dx it b)) (h2 : h.get? dx = some (dictOf [] 0)) : SelfIter PP w (.ref x) h := by
  intro A Q E s hd hu k q
  have X := hX.keeps k
  have T' := T.keeps k
  have I := ffInst (k _ _ h1) (k _ _ h2)
  have hs : findIn (KF w) (.ref 47) "__iter__" = some (some (.ref 36)) := by kernel_rfl
  have hn : findIn (KF w) (.ref 47) "__next__" = some (some (.ref 43)) := by kernel_rfl
  have hf : typeIn (KF w) (.ref 36) = some (.type "function") := by kernel_rfl
  have hfo := X 36 _ (rfl : (KF w).lookup 36 = some _)
  have called : ∀ {α : Type} (f : Value → Sem α) (P : α → Shared → Prop), (∀ tk h', (∀ b o, s.heap.get? b = some o → h'.get? b = some o) → wpAny (model PP w) A (f (.ref x)) P E { s with heap := h', toks := tk }) → wpAny (model PP w) A (call (.ref 36) [.ref x] >>= f) P E s := by
    intro α f P hp
    refine wpAny_bind (wpAny_call (codeAny_call_def (binds := [(("self" : Str), .ref x)]) (by omega) hfo rfl T'.nolimit (codeRec_of X (by kernel_rfl)) rfl (BindsTo.of_eq rfl) (by decide) (locs rfl) ?_ rfl rfl rfl))
    intro h₁ hns hk
    dsimp only
    refine wpAny_execs_cons (wpAny_Return_some (wpAny_Name (wpAny_loadName_local rfl rfl hns (v := .ref x) rfl ?_)))
    dsimp only
    exact hp _ _ hk
  have one : ∀ refuse : Sem Value, wpAny (model PP w) A (callSpecialIfBoundUnlessNone? (.ref x) "__iter__" refuse) (fun r s' => r = some (.ref x) ∧ ∃ tk h', (∀ b o, s.heap.get? b = some o → h'.get? b = some o) ∧ s' = { s with heap := h', toks := tk }) E s := by
    intro refuse
    simp only [callSpecialIfBoundUnlessNone?, bindSpecialIfBound?]
    refine wpAny_holding (wpAny_bind (wpAny_bind (wpAny_bind (I.type.here ((looks_findIn X hs).here ?_)))))
    refine wpAny_bind (wpAny_askSetting (wpAny_ite ?_))
    have fin : wpAny (model PP w) A (if (Value.ref 36 == Value.none) = true then (refuse >>= fun v => pure (some v)) else (call (.ref 36) [.ref x] >>= fun v => pure (some v)))
        (fun r s' => r = some (.ref x) ∧ ∃ tk h', (∀ b o, s.heap.get? b = some o → h'.get? b = some o) ∧ s' = { s with heap := h', toks := tk }) E s := by
      rw [if_neg (show ¬ ((Value.ref 36 == Value.none) = true) from Bool.false_ne_true)]
      exact called _ _ fun tk h' hk => wpAny_pure ⟨rfl, tk, h', hk, rfl⟩
    split
    · exact wpAny_bind ((bind_fn X _ hf).here (wpAny_pure (by exact fin)))
    · exact wpAny_tryCatch (wpAny_bind ((bind_fn X _ hf).here (wpAny_pure (by exact fin))))
  unfold pyIter
  refine wpAny_bind (wpAny_bind (I.type.here ((looks_findIn X hs).here ?_)))
  show wpAny _ A (callSpecialIfBoundUnlessNone? (.ref x) "__iter__" _ >>= _) Q E s
  refine wpAny_bind (wpAny_mono (one _) (fun r s' hr => ?_) fun _ _ z => z)
  obtain ⟨rfl, tk, h', hk, rfl⟩ := hr
  dsimp only
  refine wpAny_bind (wpAny_bind (((ffInst (hk _ _ (k _ _ h1)) (hk _ _ (k _ _ h2))).type).here ((looks_findIn (X.keeps hk) hn).here ?_)))
  exact wpAny_pure (q tk h' hk)
end
end Mine
namespace Mine
section
variable {prog : Program} {w : World} {A : Around} {E : Value → Shared → Prop} {s : Shared} {h₀ : Heap} {L : Addr} {m : Str → Option Value} {news : List (Addr × Obj)}
def FEnd (h₀ : Heap) (L : Addr) (J : Nat → (Str → Option Value) → List (Addr × Obj) → Prop) (n : Nat) (s₁ s₃ : Shared) : Prop :=
  ∃ n' m' news' h' tk', n' < n ∧ s₃ = { s₁ with heap := h', toks := tk' } ∧ Fr h₀ L h' m' ∧ News h₀ L h' news' ∧ J n' m' news'
def FPost (h₀ : Heap) (L : Addr) (J : Nat → (Str → Option Value) → List (Addr × Obj) → Prop) (n : Nat) (s₁ : Shared) (Q : Flow → Shared → Prop) (f : Flow) (s₃ : Shared) : Prop :=
  match f with
  | .next | .cont => FEnd h₀ L J n s₁ s₃
  | .brk => Q .next s₃
  | .ret v => Q (.ret v) s₃
def FTurn (prog : Program) (w : World) (A : Around) (E : Value → Shared → Prop) (h₀ : Heap) (L : Addr) (env : Env) (x : Str) (body : List Stmt) (J : Nat → (Str → Option Value) → List (Addr × Obj) → Prop) (n : Nat) (Q : Flow → Shared → Prop) (s₁ : Shared) (r : Option Value) (s₂ : Shared) : Prop :=
  match r with
  | none => Q .next s₂
  | some y => wpAny (model prog w) A (storeName env x y) (fun _ s₃ => wpAny (model prog w) A (execs body env) (FPost h₀ L J n s₁ Q) E s₃) E s₂
/-- for x in ..: the walk stands behind the iter -/
def ForAt (prog : Program) (w : World) (A : Around) (E : Value → Shared → Prop) (h₀ : Heap) (L : Addr) (env : Env) (x : Str) (body : List Stmt) (Q : Flow → Shared → Prop) (it : Value) (s₁ : Shared) : Prop :=
  ∃ (J : Nat → (Str → Option Value) → List (Addr × Obj) → Prop) (n : Nat) (m : Str → Option Value) (news : List (Addr × Obj)), Fr h₀ L s₁.heap m ∧ News h₀ L s₁.heap news ∧ J n m news ∧
    ∀ n m news h tk, J n m news → Fr h₀ L h m → News h₀ L h news → wpAny (model prog w) A (pyNext it) (FTurn prog w A E h₀ L env x body J n Q s₁) E { s₁ with heap := h, toks := tk }
theorem For_N {env : Env} {x : Str} {px pos : Pos} {iter : PySem.Expr} {body : List Stmt} {Q : Flow → Shared → Prop} (_F : Fr h₀ L s.heap m)
    (h : wpAny (model prog w) A (eval iter env) (fun xv s₁ => wpAny (model prog w) A (pyIter xv) (ForAt prog w A E h₀ L env x body Q) E s₁) E s)
    (hs : ∀ x, foldedSetIterable iter env x = pure x := by intro _; rfl) (hE : PassesOwn (model prog w) A env E := by passes_own) :
    wpAny (model prog w) A (exec (.For (.Name x px) iter body [] pos) env) Q E s := by
  refine wpAny_For (wpAny_mono h (fun xv s₁ h₁ => wpAny_mono h₁ (fun it s₂ h₂ => ?_) fun _ _ z => z) fun _ _ z => z) hs
  obtain ⟨J, n, m', news', F', N', hj, turn⟩ := h₂
  refine codeAny_forLoop (R := fun r s' => match r with | .ok f => Q f s' | .error e => cameBackBy (model prog w) A env E e s') (fun k s' => ∃ m' news' h' tk', s' = { s₂ with heap := h', toks := tk' } ∧ Fr h₀ L h' m' ∧ News h₀ L h' news' ∧ J k m' news') ?_ n ⟨m', news', s₂.heap, s₂.toks, rfl, F', N', hj⟩
  rintro k s' ⟨m', news', h', tk', rfl, F', N', hj'⟩
  refine wpAny_passesOwn hE (wpAny_mono (turn k m' news' h' tk' hj' F' N') (fun r s₁ hr => ?_) fun _ _ z => z)
  cases r with
  | none => exact wpAny_execs_nil hr
  | some y =>
    refine wpAny_passesOwn hE (wpAny_assign_Name (wpAny_mono hr (fun _ s₃ h₃ => ?_) fun _ _ z => z))
    refine wpAny_passesOwn hE (wpAny_mono h₃ (fun f s₄ h₄ => ?_) fun _ _ z => z)
    have fin : FEnd h₀ L J k s₂ s₄ → ∃ m, m < k ∧ ∃ m' news' h' tk', s₄ = { s₂ with heap := h', toks := tk' } ∧ Fr h₀ L h' m' ∧ News h₀ L h' news' ∧ J m m' news' := by
      rintro ⟨n', m', news', h', tk', a, b, c, d, e⟩
      exact ⟨n', a, m', news', h', tk', b, c, d, e⟩
    cases f with
    | next => exact fin h₄
    | cont => exact fin h₄
    | brk => exact h₄
    | ret v => exact h₄

abbrev rangeIterObj (x left step : Int) : Obj := { cls := .type "range_iterator", dict := none, data := .fields #[rawInt x, rawInt left, rawInt step], slots := #[] }
theorem iter_range_N {r : Addr} {a b c : Int} {t u v : Tok} {Q : Value → Shared → Prop} (F : Fr h₀ L s.heap m) (N : News h₀ L s.heap news) (hr : IsRange s.heap r a b c t u v) (hsm : Builtin.Range.small a b c = true)
    (h : ∀ I h', Fr h₀ L h' m → News h₀ L h' ((I, rangeIterObj a (Builtin.Range.rangeSize a b c) c) :: news) → (∀ p ∈ news, p.1 < I) → Q (.ref I) { s with heap := h' }) : wpAny (model prog w) A (pyIter (.ref r)) Q E s := by
  refine wpAny_pyIter_range hr hsm ?_
  exact h _ _ (F.push _) (N.push F _) fun p hp => Heap.lt_size (N p hp).1
theorem next_range_N {I : Addr} {x left step : Int} {pre post : List (Addr × Obj)} {Q : Option Value → Shared → Prop} (F : Fr h₀ L s.heap m) (N : News h₀ L s.heap (pre ++ (I, rangeIterObj x left step) :: post)) (hne : (∀ p ∈ pre, p.1 ≠ I) ∧ ∀ p ∈ post, p.1 ≠ I) (hh : A.handled = none)
    (go : 0 < left → ∀ h' tk t, Fr h₀ L h' m → News h₀ L h' (pre ++ (I, rangeIterObj (x + step) (left - 1) step) :: post) → Q (some (.int x t)) { s with heap := h', toks := tk })
    (stop : left ≤ 0 → ∀ h', Fr h₀ L h' m → News h₀ L h' (pre ++ post) → Q none { s with heap := h' }) : wpAny (model prog w) A (pyNext (.ref I)) Q E s := by
  have hI := N (I, rangeIterObj x left step) (List.mem_append_right _ (.head _))
  rcases (by omega : 0 < left ∨ left ≤ 0) with hl | hl
  · refine wpAny_pyNext_range_item hI.1 hl fun h' hit hs => ?_
    exact go hl _ _ _ (F.change hs hI.2.1 hI.2.2) (N.setAt hne.1 hne.2 hs hit)
  · refine wpAny_pyNext_range_end hh hI.1 hl fun h' hx => ?_
    refine stop hl h' ?_ fun p hp => ?_
    · refine ⟨?_, fun b o e => hx _ _ ?_ (F.keep b o e), F.above⟩
      · exact F.ns.at' fun o e => hx _ _ (Ne.symm hI.2.1) e
      · rintro rfl; rw [hI.2.2] at e; cases e
    · have hp' := N p (by rcases List.mem_append.mp hp with q | q; exact List.mem_append_left _ q; exact List.mem_append_right _ (.tail _ q))
      refine ⟨hx _ _ ?_ hp'.1, hp'.2⟩
      rcases List.mem_append.mp hp with q | q
      · exact hne.1 p q
      · exact hne.2 p q
end
end Mine
namespace Mine
section
variable {prog : Program} {w : World} {A : Around} {E : Value → Shared → Prop} {s : Shared} {h₀ : Heap} {L : Addr} {m : Str → Option Value} {news : List (Addr × Obj)}
/-- a quiet test of a comprehension's turn -/
def QuietT (prog : Program) (w : World) (A : Around) (h₀ : Heap) (news : List (Addr × Obj)) (cenv : Addr → Env) (x : Str) (ifs : List PySem.Expr) (P : Value → Prop) (p : Value → Bool) : Prop :=
  ∀ C v h tk m₃ E' g d o, P v → Fr h₀ C h m₃ → News h₀ C h news → m₃ x = some v →
    wpAny (model prog w) A (forIn ifs true fun c r => if r = true then do let ok ← isTrue c (cenv C) (eval c (cenv C)); pure (ForInStep.yield ok) else pure (ForInStep.yield r)) (fun ok s₄ => ok = p v ∧ Keeps { heap := h, toks := tk, gens := g, drawn := d, os := o } s₄) E' { heap := h, toks := tk, gens := g, drawn := d, os := o }
def QuietE (prog : Program) (w : World) (A : Around) (h₀ : Heap) (news : List (Addr × Obj)) (cenv : Addr → Env) (x : Str) (elt : PySem.Expr) (P : Value → Prop) (p : Value → Bool) (R : Value → Value → Prop) : Prop :=
  ∀ C v h tk m₃ E' g d o, P v → p v = true → Fr h₀ C h m₃ → News h₀ C h news → m₃ x = some v →
    wpAny (model prog w) A (eval elt (cenv C)) (fun y s₄ => R v y ∧ Keeps { heap := h, toks := tk, gens := g, drawn := d, os := o } s₄) E' { heap := h, toks := tk, gens := g, drawn := d, os := o }
theorem quietT_nil {cenv : Addr → Env} {x : Str} {P : Value → Prop} : QuietT prog w A h₀ news cenv x [] P (fun _ => true) := by
  intro C v h tk m₃ E' g d o _ _ _ _
  exact wpAny_pure ⟨rfl, ⟨_, _, rfl, fun _ _ e => e⟩⟩
theorem quietT_one {cenv : Addr → Env} {x : Str} {ct : PySem.Expr} {P : Value → Prop} {p : Value → Bool}
    (h : ∀ C v h tk m₃ E' g d o, P v → Fr h₀ C h m₃ → News h₀ C h news → m₃ x = some v → wpAny (model prog w) A (isTrue ct (cenv C) (eval ct (cenv C))) (fun ok s₄ => ok = p v ∧ Keeps { heap := h, toks := tk, gens := g, drawn := d, os := o } s₄) E' { heap := h, toks := tk, gens := g, drawn := d, os := o }) :
    QuietT prog w A h₀ news cenv x [ct] P p := by
  intro C v h' tk m₃ E' g d o hv F N hm
  simp only [List.forIn_cons, List.forIn_nil, if_true]
  exact wpAny_bind (wpAny_bind (wpAny_mono (h C v h' tk m₃ E' g d o hv F N hm) (fun ok s₄ hk => wpAny_pure (wpAny_pure hk)) fun _ _ z => z))
/-- [elt for x in l if ..]: the walk stands at the source -/
def CompAt (prog : Program) (w : World) (A : Around) (h₀ : Heap) (L : Addr) (env : Env) (scope : Scope) (cl : List (Str × Addr)) (x : Str) (ifs : List PySem.Expr) (elt : PySem.Expr) (Q : Value → Shared → Prop) (xv : Value) (s₁ : Shared) : Prop :=
  ∃ (ax : Addr) (vs : List Value) (m : Str → Option Value) (news : List (Addr × Obj)) (p : Value → Bool) (R : Value → Value → Prop), xv = .ref ax ∧ Fr h₀ L s₁.heap m ∧ News h₀ L s₁.heap news ∧ s₁.heap.IsList ax vs.toArray ∧ vs.length ≤ sizeLine ∧ A.handled = none ∧
    QuietT prog w A h₀ news (fun C => compEnvC scope cl C env) x ifs (· ∈ vs) p ∧ QuietE prog w A h₀ news (fun C => compEnvC scope cl C env) x elt (· ∈ vs) p R ∧
    ∀ D ys n h' tk, Fr h₀ L h' m → News h₀ L h' ((D, listOf (List.toArray ys) n) :: news) → (∀ q ∈ news, q.1 ≠ D) → Paired R (vs.filter p) ys → Q (.ref D) { s₁ with heap := h', toks := tk }
theorem Comp_N {env : Env} {elt iter : PySem.Expr} {x : Str} {px : Pos} {ifs : List PySem.Expr} {scope : Scope} {cl : List (Str × Addr)} {pos : Pos} {Q : Value → Shared → Prop} (F : Fr h₀ L s.heap m)
    (hclos : closureFor scope env = pure cl) (hcell : ∀ y ∈ scope.names, y.2 ≠ .cell) (hkind : scope.kind = .function)
    (hnames : ∀ y ∈ scope.names, y.2 = .local → scope.names.lookup y.1 = some .local) (hx : scope.names.lookup x = some .local)
    (h : wpAny (model prog w) A (eval iter env) (CompAt prog w A h₀ L env scope cl x ifs elt Q) E s)
    (hs : ∀ x, foldedSetIterable iter env x = pure x := by intro _; rfl) :
    wpAny (model prog w) A (eval (.ListComp elt [⟨.Name x px, iter, ifs, 0⟩] scope pos) env) Q E s := by
  rw [eval_ListComp]
  refine wpAny_comprehension_free (use := none) rfl hs hclos hkind hnames (wpAny_mono h (fun xv s₁ h₁ => ?_) fun _ _ e => e)
  obtain ⟨ax, vs, m', news', p, R, rfl, F', N', hl, hsz, hh, ht, he, hQ⟩ := h₁
  have hax : ax < s₁.heap.objs.size := by obtain ⟨_, e, _⟩ := id hl; exact Heap.lt_size e
  have notI : ∀ b, b < s₁.heap.objs.size → b ∉ [s₁.heap.objs.size] := fun b hb hm => by
    rcases List.mem_cons.mp hm with e | hm
    · exact Nat.lt_irrefl _ (e ▸ hb)
    · cases hm
  refine wpAny_pyIter_list hl ?_
  have W := Walks.list (prog := prog) (w := w) hh s₁.heap.objs.size ax (Nat.ne_of_lt hax) vs.toArray
  have there : ∀ {s₃ : Shared}, (∀ b o, b ∉ [s₁.heap.objs.size] → (s₁.heap.push { cls := .type "list_iterator", data := .fields #[.ref ax, .int 0 0] }).get? b = some o → s₃.heap.get? b = some o) → ∀ b o, s₁.heap.get? b = some o → s₃.heap.get? b = some o :=
    fun k b o e => k b o (notI b (Heap.lt_size e)) (Heap.get?_push_of_some _ e)
  have inner : ∀ {C : Addr} {s₃ : Shared} {m₃ : Str → Option Value}, (s₁.heap.push { cls := .type "list_iterator", data := .fields #[.ref ax, .int 0 0] }).objs.size ≤ C → s₃.heap.Ns C m₃ →
      (∀ b o, b ∉ [s₁.heap.objs.size] → (s₁.heap.push { cls := .type "list_iterator", data := .fields #[.ref ax, .int 0 0] }).get? b = some o → s₃.heap.get? b = some o) → Fr h₀ C s₃.heap m₃ ∧ News h₀ C s₃.heap news' := by
    intro C s₃ m₃ hC hn hk
    have hsC : s₁.heap.objs.size ≤ C := Nat.le_trans (by rw [Heap.size_push]; exact Nat.le_succ _) hC
    refine ⟨⟨hn, fun b o e => there hk b o (F'.keep b o e), ?_⟩, fun q hq => ⟨there hk _ _ (N' q hq).1, ?_, (N' q hq).2.2⟩⟩
    · exact Nat.le_trans (Nat.le_trans F'.above (Nat.le_of_lt F'.ns.lt)) hsC
    · exact Nat.ne_of_lt (Nat.lt_of_lt_of_le (Heap.lt_size (N' q hq).1) hsC)
  have memv : ∀ {i : Nat} {v : Value}, vs.toArray[i]? = some v → v ∈ vs := fun h => by
    rw [List.getElem?_toArray] at h
    exact List.mem_of_getElem? h
  refine comp_block_walkC (RR := fun acc C => compPost (model prog w) A E none Q acc C) W (by simpa using hsz) p R hcell hkind hx ?_ ?_ ⟨?_, ?_⟩ ?_
  · exact ⟨⟨_, Heap.get?_push_size _ rfl, rfl, rfl⟩, hl.push _⟩
  · intro b hb
    show b < (s₁.heap.push _).objs.size
    rw [Heap.size_push]
    rcases List.mem_cons.mp hb with rfl | hb
    · exact Nat.lt_succ_self _
    · rcases List.mem_cons.mp hb with rfl | hb
      · exact Nat.lt_succ_of_lt hax
      · cases hb
  · intro C i v s₃ m₃ E' hC hP hn hm hold _
    obtain ⟨F₃, N₃⟩ := inner hC hn hold
    exact ht C v s₃.heap s₃.toks m₃ E' s₃.gens s₃.drawn s₃.os (memv hP) F₃ N₃ hm
  · intro C i v s₃ m₃ E' hC hP hp hn hm hold _
    obtain ⟨F₃, N₃⟩ := inner hC hn hold
    exact he C v s₃.heap s₃.toks m₃ E' s₃.gens s₃.drawn s₃.os (memv hP) hp F₃ N₃ hm
  · intro D C h' tk m'' ys vs' hD hC hDC hn hlD hpl hlen hP hF hk
    have hh₁ : ∀ b o, s₁.heap.get? b = some o → h'.get? b = some o := there (s₃ := { s₁ with heap := h' }) hk
    have hszp : (s₁.heap.push { cls := .type "list_iterator", data := .fields #[.ref ax, .int 0 0] }).objs.size = s₁.heap.objs.size + 1 := Heap.size_push ..
    refine ⟨m'', hn, fun h'' hs'' => ?_⟩
    have keep : ∀ b o, s₁.heap.get? b = some o → h''.get? b = some o := fun b o e => hs''.extBut b o (by
      intro hb
      rw [← hb, show (s₁.heap.push { cls := .type "list_iterator", data := .fields #[.ref ax, .int 0 0] }).get? b = some o from Heap.get?_push_of_some _ e] at hC
      cases hC) (hh₁ b o e)
    obtain ⟨n, hD'⟩ := hpl.extBut hs''.extBut hDC
    have hDn : s₁.heap.get? D = none := by
      cases e : s₁.heap.get? D with
      | none => rfl
      | some o => rw [show (s₁.heap.push { cls := .type "list_iterator", data := .fields #[.ref ax, .int 0 0] }).get? D = some o from Heap.get?_push_of_some _ e] at hD; cases hD
    have hv : vs' = vs := list_of_places (by simpa using hlen) hP
    subst hv
    refine hQ D ys.toList n h'' tk (F'.keeps keep) ?_ (fun q hq e => ?_) hF
    · intro q hq
      rcases List.mem_cons.mp hq with rfl | hq
      · refine ⟨by simpa using hD', ?_, ?_⟩
        · rintro rfl
          obtain ⟨oL, _, _, hL, _⟩ := F'.ns
          rw [hDn] at hL; cases hL
        · cases e : h₀.get? D with
          | none => rfl
          | some o => rw [F'.keep _ _ e] at hDn; cases hDn
      · exact ⟨keep _ _ (N' q hq).1, (N' q hq).2⟩
    · have := (N' q hq).1
      rw [e, hDn] at this; cases this
def AllNe (d : Nat) : List (Addr × Obj) → Prop
  | [] => True
  | p :: r => @Ne Nat p.1 d ∧ AllNe d r
theorem allNe_of {d : Addr} : ∀ {l : List (Addr × Obj)}, (∀ p ∈ l, p.1 ≠ d) → AllNe d l
  | [], _ => trivial
  | p :: _, h => ⟨h p (.head _), allNe_of fun q hq => h q (.tail _ hq)⟩
theorem range1_M {Q : Value → Shared → Prop} {n : Int} {t : Tok} (F : Fr h₀ L s.heap m) (N : News h₀ L s.heap news)
    (h : ∀ r h' tk t₁ u₁ v₁, Fr h₀ L h' m → News h₀ L h' ((r, { cls := .type "range", dict := none, data := .fields #[.int 0 t₁, .int n u₁, .int 1 v₁], slots := #[] }) :: news) → (∀ p ∈ news, p.1 < r) → Q (.ref r) { s with heap := h', toks := tk }) :
    wpAny (model prog w) A (call (.type "range") [.int n t]) Q E s :=
  range1_rows F N (fun h' tk t₁ u₁ v₁ hr F' _ hk => h _ h' tk t₁ u₁ v₁ F' (News_new F N hk (Nat.le_refl _) hr) fun p hp => Heap.lt_size (N p hp).1)
theorem range2_M {Q : Value → Shared → Prop} {a n : Int} {t t' : Tok} (F : Fr h₀ L s.heap m) (N : News h₀ L s.heap news)
    (h : ∀ r h' tk t₁ u₁ v₁, Fr h₀ L h' m → News h₀ L h' ((r, { cls := .type "range", dict := none, data := .fields #[.int a t₁, .int n u₁, .int 1 v₁], slots := #[] }) :: news) → (∀ p ∈ news, p.1 < r) → Q (.ref r) { s with heap := h', toks := tk }) :
    wpAny (model prog w) A (call (.type "range") [.int a t', .int n t]) Q E s :=
  range2_rows F N (fun h' tk t₁ u₁ v₁ hr F' _ hk => h _ h' tk t₁ u₁ v₁ F' (News_new F N hk (Nat.le_refl _) hr) fun p hp => Heap.lt_size (N p hp).1)
end
end Mine
namespace Mine
section
variable {prog : Program} {w : World} {A : Around} {E : Value → Shared → Prop} {s : Shared} {h₀ : Heap} {L : Addr} {m : Str → Option Value} {news : List (Addr × Obj)}
theorem name_comp {env : Env} {scope : Scope} {cl : List (Str × Addr)} {C : Addr} {x : Str} {pos : Pos} {v : Value} {Q : Value → Shared → Prop} (F : Fr h₀ C s.heap m) (hv : m x = some v) (h : Q v s)
    (hk : (compEnvC scope cl C env).scope.kind = .function) (hx : (compEnvC scope cl C env).kindOf x = some .local) (hd : (x == ("__debug__" : Str)) = false := by decide) : wpAny (model prog w) A (eval (.Name x pos) (compEnvC scope cl C env)) Q E s :=
  wpAny_Name (wpAny_loadName_local hk hx F.ns hv h) hd
theorem ints_get {vs : List Value} {ns : List Int} (h : IntsAre vs ns) : ∀ v ∈ vs, ∃ a t, v = .int a t ∧ a ∈ ns := by
  induction h with
  | nil => intro v hv; cases hv
  | cons n t _ ih =>
    intro v hv
    rcases List.mem_cons.mp hv with rfl | hv
    · exact ⟨n, t, rfl, .head _⟩
    · obtain ⟨a, t', e, hm⟩ := ih v hv
      exact ⟨a, t', e, .tail _ hm⟩
theorem paired_filter {p : Int → Bool} {pv : Value → Bool} (hpv : ∀ a t, pv (.int a t) = p a) {vs : List Value} {ns : List Int} (h : IntsAre vs ns) : ∀ {ys : List Value}, Paired (fun v y => y = v) (vs.filter pv) ys → IntsAre ys (ns.filter p) := by
  induction h with
  | nil => intro ys hy; cases hy; exact .nil
  | cons n t _ ih =>
    intro ys hy
    rw [List.filter_cons, hpv] at hy
    rw [List.filter_cons]
    cases hp : p n with
    | false =>
      rw [hp, if_neg Bool.false_ne_true] at hy
      rw [if_neg Bool.false_ne_true]
      exact ih hy
    | true =>
      rw [hp, if_pos rfl] at hy
      rw [if_pos rfl]
      cases hy with
      | cons e r => subst e; exact .cons _ _ (ih r)
def pvOf (p : Int → Bool) : Value → Bool
  | .int a _ => p a
  | _ => false
/-- [x for x in l if ct], l of ints -/
theorem comp_ints (p : Int → Bool) {env : Env} {scope : Scope} {cl : List (Str × Addr)} {x : Str} {ct : PySem.Expr} {pos : Pos} {Q : Value → Shared → Prop} {ax : Addr} {vs : List Value} {na : Nat} {ns : List Int}
    (F : Fr h₀ L s.heap m) (N : News h₀ L s.heap news) (hm : (ax, listOf (List.toArray vs) na) ∈ news) (hi : IntsAre vs ns) (hz : vs.length ≤ 1000) (hh : A.handled = none)
    (hk : scope.kind = .function) (hx : ∀ C, (compEnvC scope cl C env).kindOf x = some .local) (hd : (x == ("__debug__" : Str)) = false)
    (ok : ∀ D ys n h' tk, Fr h₀ L h' m → News h₀ L h' ((D, listOf (List.toArray ys) n) :: news) → (∀ q ∈ news, q.1 ≠ D) → IntsAre ys (ns.filter p) → Q (.ref D) { s with heap := h', toks := tk })
    (test : ∀ C a t h tk m₃ E' g d o, a ∈ ns → Fr h₀ C h m₃ → News h₀ C h news → m₃ x = some (.int a t) → wpAny (model prog w) A (isTrue ct (compEnvC scope cl C env) (eval ct (compEnvC scope cl C env))) (fun ok s₄ => ok = p a ∧ Keeps { heap := h, toks := tk, gens := g, drawn := d, os := o } s₄) E' { heap := h, toks := tk, gens := g, drawn := d, os := o }) :
    CompAt prog w A h₀ L env scope cl x [ct] (.Name x pos) Q (.ref ax) s := by
  refine ⟨ax, vs, m, news, pvOf p, fun v y => y = v, rfl, F, N, ⟨_, (N _ hm).1, rfl, na, rfl⟩, by rw [sizeLine_eq]; omega, hh, quietT_one ?_, ?_, ?_⟩
  · intro C v h tk m₃ E' g d o hv F₃ N₃ hm₃
    obtain ⟨a, t, rfl, ha⟩ := ints_get hi v hv
    exact test C a t h tk m₃ E' g d o ha F₃ N₃ hm₃
  · intro C v h tk m₃ E' g d o hv _ F₃ N₃ hm₃
    exact name_comp (s := { heap := h, toks := tk, gens := g, drawn := d, os := o }) F₃ hm₃ ⟨rfl, ⟨_, _, rfl, fun _ _ e => e⟩⟩ hk (hx C) hd
  · intro D ys n h' tk F' N' hne hP
    exact ok D ys n h' tk F' N' hne (paired_filter (fun _ _ => rfl) hi hP)
end
end Mine
namespace Mine
section
variable {prog : Program} {w : World} {A : Around} {E : Value → Shared → Prop} {s : Shared} {h₀ : Heap} {L : Addr} {m mg mb : Str → Option Value} {news : List (Addr × Obj)} {K : Frag} {p : Program} {loose : List Str}
theorem name_compB {env : Env} {scope : Scope} {cl : List (Str × Addr)} {C : Addr} {x : Str} {pos : Pos} {v : Value} {Q : Value → Shared → Prop} (F : Fr h₀ C s.heap m) (X : K.In h₀) (T : TopRead p loose mg mb h₀) (e : nsIn K mainGlobals x = some none) (hv : bootBuiltins x = some v) (hn : x ≠ "__name__") (h : Q v s)
    (hk : (compEnvC scope cl C env).scope.kind = .function) (hx : (compEnvC scope cl C env).kindOf x = some .globalImplicit) (hg : env.globals = mainGlobals) (hb : env.builtins = builtinsNs) (hd : (x == ("__debug__" : Str)) = false := by decide) : wpAny (model prog w) A (eval (.Name x pos) (compEnvC scope cl C env)) Q E s :=
  Name_function_global hk hx (loadGlobal_builtin (env := compEnvC scope cl C env) (by show s.heap.Ns env.globals mg; rw [hg]; exact T.g.keeps F.keep) (mg_none_of X T.g e) (by show s.heap.Ns env.builtins mb; rw [hb]; exact T.b.keeps F.keep) ((T.builtins x hn).trans hv) h) hd
theorem paired_map {f : Int → Int} {vs : List Value} {ns : List Int} (h : IntsAre vs ns) : ∀ {ys : List Value}, Paired (fun v y => ∃ a t u, v = Value.int a t ∧ y = Value.int (f a) u) (vs.filter fun _ => true) ys → IntsAre ys (ns.map f) := by
  induction h with
  | nil => intro ys hy; cases hy; exact .nil
  | cons n t _ ih =>
    intro ys hy
    rw [List.filter_cons, if_pos rfl] at hy
    cases hy with
    | cons e r =>
      obtain ⟨a, t', u, e1, e2⟩ := e
      cases e1; subst e2
      exact .cons _ _ (ih r)
/-- [elt for x in l], l of ints, elt an int -/
theorem comp_map (f : Int → Int) {env : Env} {scope : Scope} {cl : List (Str × Addr)} {x : Str} {elt : PySem.Expr} {Q : Value → Shared → Prop} {ax : Addr} {vs : List Value} {na : Nat} {ns : List Int}
    (F : Fr h₀ L s.heap m) (N : News h₀ L s.heap news) (hm : (ax, listOf (List.toArray vs) na) ∈ news) (hi : IntsAre vs ns) (hz : vs.length ≤ 1000) (hh : A.handled = none)
    (ok : ∀ D ys n h' tk, Fr h₀ L h' m → News h₀ L h' ((D, listOf (List.toArray ys) n) :: news) → (∀ q ∈ news, q.1 ≠ D) → IntsAre ys (ns.map f) → Q (.ref D) { s with heap := h', toks := tk })
    (el : ∀ C a t h tk m₃ E' g d o, a ∈ ns → Fr h₀ C h m₃ → News h₀ C h news → m₃ x = some (.int a t) → wpAny (model prog w) A (eval elt (compEnvC scope cl C env)) (fun y s₄ => (∃ u, y = .int (f a) u) ∧ Keeps { heap := h, toks := tk, gens := g, drawn := d, os := o } s₄) E' { heap := h, toks := tk, gens := g, drawn := d, os := o }) :
    CompAt prog w A h₀ L env scope cl x [] elt Q (.ref ax) s := by
  refine ⟨ax, vs, m, news, fun _ => true, fun v y => ∃ a t u, v = Value.int a t ∧ y = Value.int (f a) u, rfl, F, N, ⟨_, (N _ hm).1, rfl, na, rfl⟩, by rw [sizeLine_eq]; omega, hh, quietT_nil, ?_, ?_⟩
  · intro C v h tk m₃ E' g d o hv _ F₃ N₃ hm₃
    obtain ⟨a, t, rfl, ha⟩ := ints_get hi v hv
    exact wpAny_mono (el C a t h tk m₃ E' g d o ha F₃ N₃ hm₃) (fun y s₄ z => ⟨by obtain ⟨⟨u, e⟩, _⟩ := z; exact ⟨a, t, u, rfl, e⟩, z.2⟩) fun _ _ z => z
  · intro D ys n h' tk F' N' hne hP
    exact ok D ys n h' tk F' N' hne (paired_map hi hP)
end
end Mine
namespace Mine
abbrev LC2 (elt : PySem.Expr) (x : Str) (px : Pos) (iter ct : PySem.Expr) (y : Str) (py : Pos) (iter2 : PySem.Expr) (scope : Scope) (pos : Pos) : PySem.Expr :=
  .ListComp elt [⟨.Name x px, iter, [ct], 0⟩, ⟨.Name y py, iter2, [], 0⟩] scope pos
section
variable {elt : PySem.Expr} {x : Str} {px : Pos} {iter ct : PySem.Expr} {y : Str} {py : Pos} {iter2 : PySem.Expr} {scope : Scope} {pos : Pos}
theorem turn2_in (it acc : Value) (env : Env) : compTurn (LC2 elt x px iter ct y py iter2 scope pos) 1 it acc env = (do
      standAt iter2.pos
      match ← pyNext it with
      | none => pure (.done .next)
      | some v =>
        letOwnedTupleGo (.Name y py) it v
        assign (.Name y py) env v
        let mut ok := true
        for c in ([] : List PySem.Expr) do
          if ok then ok ← isTrue c env (eval c env)
        if ok then
          (do let _ ← call (.builtin "list.append") [acc, ← eval elt env])
        again (.compLoop (LC2 elt x px iter ct y py iter2 scope pos) 1 it acc env)) := by rfl
theorem turn2_out (it acc : Value) (env : Env) : compTurn (LC2 elt x px iter ct y py iter2 scope pos) 0 it acc env = (do
      standAt iter.pos
      match ← pyNext it with
      | none => pure (.done .next)
      | some v =>
        letOwnedTupleGo (.Name x px) it v
        assign (.Name x px) env v
        let mut ok := true
        for c in [ct] do
          if ok then ok ← isTrue c env (eval c env)
        if ok then
          let z ← eval iter2 env
          standAt iter2.pos
          let z ← foldedSetIterable iter2 env z
          let _ ← runOwn (.compStart (LC2 elt x px iter ct y py iter2 scope pos) 1 (← holding [z] (pyIter z)) acc env) env
          again (.compLoop (LC2 elt x px iter ct y py iter2 scope pos) 0 it acc env)
        else again (.compLoop (LC2 elt x px iter ct y py iter2 scope pos) 0 it acc env)) := by rfl
section
variable {prog : Program} {w : World} {A : Around} {E : Value → Shared → Prop} {R : Result → Shared → Prop} {s : Shared}
theorem loop2_in {it acc : Value} {env : Env} (I : Nat → Shared → Prop)
    (turn : ∀ n s, I n s → wpAny (model prog w) A (pyNext it) (fun r s₁ => match r with
      | none => R (.ok .next) s₁
      | some v => wpAny (model prog w) A (assign (.Name y py) env v) (fun _ s₂ => wpAny (model prog w) A (eval elt env) (fun x s₃ =>
          wpAny (model prog w) A (call (.builtin "list.append") [acc, x]) (fun _ s₄ => ∃ m, m < n ∧ I m s₄) (notedBy (model prog w) A env fun e s' => R (.error e) s') s₃)
          (notedBy (model prog w) A env fun e s' => R (.error e) s') s₂) (notedBy (model prog w) A env fun e s' => R (.error e) s') s₁) (notedBy (model prog w) A env fun e s' => R (.error e) s') s)
    (n : Nat) (h : I n s) : codeAny (model prog w) A (.compLoop (LC2 elt x px iter ct y py iter2 scope pos) 1 it acc env) R s := by
  refine codeAny_loop rfl I (fun n s hI => ?_) n h
  show wpAny _ A ((compTurn (LC2 elt x px iter ct y py iter2 scope pos) 1 it acc env).onRaise (fun x => do noteFrame x env; theTreesLotGoes x)) _ _ s
  refine wpAny_noted ?_
  rw [turn2_in]
  refine wpAny_bind (wpAny_standAt (wpAny_bind (wpAny_mono (turn n s hI) (fun r s₁ h₁ => ?_) fun _ _ h' => h')))
  cases r with
  | none => exact wpAny_pure h₁
  | some v =>
    refine wpAny_bind (wpAny_of_eq (a := ()) rfl ?_)
    refine wpAny_bind (wpAny_mono h₁ (fun _ s₂ h₂ => wpAny_bind ?_) fun _ _ h' => h')
    refine wpAny_mono (wpAny_tests_nil (Q := fun ok s' => ok = true ∧ s' = s₂) ⟨rfl, rfl⟩) (fun ok s' hk => ?_) fun _ _ h' => h'
    obtain ⟨rfl, rfl⟩ := hk
    exact wpAny_bind (wpAny_bind (wpAny_mono h₂ (fun x s₄ h₄ => wpAny_bind (wpAny_mono h₄ (fun _ s₅ h₅ => wpAny_pure (wpAny_pure ⟨rfl, h₅⟩)) fun _ _ h' => h')) fun _ _ h' => h'))
theorem start2_in {it acc : Value} {env : Env} (h0 : codeAny (model prog w) A (.compLoop (LC2 elt x px iter ct y py iter2 scope pos) 1 it acc env) R s)
    (h : wpAny (model prog w) A (pyIter it) (fun it' s' => codeAny (model prog w) A (.compLoop (LC2 elt x px iter ct y py iter2 scope pos) 1 it' acc env) R s') (notedBy (model prog w) A env fun x s' => R (.error x) s') s) :
    codeAny (model prog w) A (.compStart (LC2 elt x px iter ct y py iter2 scope pos) 1 it acc env) R s := by
  refine codeAny_of_tree ?_
  show wpAny _ _ ((compStart (LC2 elt x px iter ct y py iter2 scope pos) 1 it acc env).onRaise (fun x => do noteFrame x env; standAt theWindowsPlace)) _ _ s
  refine wpAny_notedAt ?_
  unfold compStart
  show wpAny _ _ (ask >>= _) _ _ s
  refine wpAny_bind (wpAny_askSetting (wpAny_ite ?_))
  split
  · first
      | exact wpAny_bind (wpAny_pure (wpAny_pure (And.intro rfl h0)))
      | exact wpAny_pure (And.intro rfl h0)
  · first
      | exact wpAny_bind (wpAny_rule (wpAny_bind (wpAny_standAt (wpAny_bind (wpAny_mono h (fun it' s' h' => wpAny_pure (And.intro rfl h')) fun _ _ x => x)))))
      | (refine wpAny_bind (wpAny_rule ?_); show wpAny _ _ (standAt iter2.pos >>= _) _ _ s; exact wpAny_bind (wpAny_standAt (wpAny_bind (wpAny_mono h (fun it' s' h' => wpAny_pure (And.intro rfl h')) fun _ _ x => x))))
theorem loop2_out {it acc : Value} {env : Env} (I : Nat → Shared → Prop)
    (turn : ∀ n s, I n s → wpAny (model prog w) A (pyNext it) (fun r s₁ => match r with
      | none => R (.ok .next) s₁
      | some v => wpAny (model prog w) A (assign (.Name x px) env v) (fun _ s₂ => wpAny (model prog w) A (isTrue ct env (eval ct env)) (fun ok s₃ =>
          if ok = true then wpAny (model prog w) A (eval iter2 env) (fun z s₄ => wpAny (model prog w) A (pyIter z) (fun it2 s₅ =>
            codeAny (model prog w) (A.mark none) (.compStart (LC2 elt x px iter ct y py iter2 scope pos) 1 it2 acc env) (fun r s₆ => r = .ok .next ∧ ∃ m, m < n ∧ I m s₆) s₅) (notedBy (model prog w) A env fun e s' => R (.error e) s') s₄) (notedBy (model prog w) A env fun e s' => R (.error e) s') s₃
          else ∃ m, m < n ∧ I m s₃) (notedBy (model prog w) A env fun e s' => R (.error e) s') s₂) (notedBy (model prog w) A env fun e s' => R (.error e) s') s₁) (notedBy (model prog w) A env fun e s' => R (.error e) s') s)
    (n : Nat) (h : I n s) (hs : ∀ z, foldedSetIterable iter2 env z = pure z) : codeAny (model prog w) A (.compLoop (LC2 elt x px iter ct y py iter2 scope pos) 0 it acc env) R s := by
  refine codeAny_loop rfl I (fun n s hI => ?_) n h
  show wpAny _ A ((compTurn (LC2 elt x px iter ct y py iter2 scope pos) 0 it acc env).onRaise (fun x => do noteFrame x env; theTreesLotGoes x)) _ _ s
  refine wpAny_noted ?_
  rw [turn2_out]
  refine wpAny_bind (wpAny_standAt (wpAny_bind (wpAny_mono (turn n s hI) (fun r s₁ h₁ => ?_) fun _ _ h' => h')))
  cases r with
  | none => exact wpAny_pure h₁
  | some v =>
    refine wpAny_bind (wpAny_of_eq (a := ()) rfl ?_)
    refine wpAny_bind (wpAny_mono h₁ (fun _ s₂ h₂ => wpAny_bind (wpAny_tests_one (wpAny_mono h₂ (fun ok s₃ h₃ => ?_) fun _ _ h' => h'))) fun _ _ h' => h')
    cases ok with
    | false => exact wpAny_pure ⟨rfl, h₃⟩
    | true =>
      refine wpAny_bind (wpAny_mono h₃ (fun z s₄ h₄ => wpAny_bind (wpAny_standAt (wpAny_bind (wpAny_of_eq (hs z) (wpAny_bind (wpAny_holding (wpAny_mono h₄ (fun it2 s₅ h₅ => ?_) fun _ _ h' => h'))))))) fun _ _ h' => h')
      refine wpAny_bind (wpAny_runOwn (codeAny_mono h₅ fun r s₆ h₆ => ?_))
      obtain ⟨rfl, h₆⟩ := h₆
      exact wpAny_pure ⟨rfl, h₆⟩
end
end
end Mine
namespace Mine
theorem ints_at {vs : List Value} {ns : List Int} (h : IntsAre vs ns) : ∀ (i : Nat) (v : Value), vs[i]? = some v → ∃ a t, v = .int a t ∧ ns[i]? = some a := by
  induction h with
  | nil => intro i v hv; simp at hv
  | cons n t _ ih =>
    intro i v hv
    cases i with
    | zero => simp at hv; subst hv; exact ⟨n, t, rfl, rfl⟩
    | succ i => simpa using ih i v (by simpa using hv)
theorem ints_snoc' {ts : List Value} {told : List Int} {a : Int} {t : Tok} (h : IntsAre ts told) : IntsAre (ts ++ [.int a t]) (told ++ [a]) := by
  induction h with
  | nil => exact .cons _ _ .nil
  | cons _ _ _ ih => exact .cons _ _ ih
section
variable {elt : PySem.Expr} {x : Str} {px : Pos} {iter ct : PySem.Expr} {y : Str} {py : Pos} {iter2 : PySem.Expr} {scope : Scope} {pos : Pos}
variable {prog : Program} {w : World} {A : Around} {E : Value → Shared → Prop} {s : Shared}
/-- the inner loop over a tuple of ints -/
theorem in2_walk {f : Int → Int} {bs : List Int} {its : Array Value} {tx D : Addr} {cenv : Env} {m : Str → Option Value} {ys : Array Value} {zs : List Int} (hh : A.handled = none) (ht : s.heap.IsTuple tx its) (hb : IntsAre its.toList bs)
    (hy : cenv.kindOf y = some .local) (hp : (cenv.scope.kind == .class || (cenv.scope.kind == .module && cenv.locals != cenv.globals)) = false) (hDC : D ≠ cenv.locals)
    (hn : s.heap.Ns cenv.locals m) (hD : s.heap.PlainList D ys) (hys : IntsAre ys.toList zs) (hz : ys.size + bs.length ≤ sizeLine)
    (helt : ∀ b t s₂ m₂ E', b ∈ bs → s₂.heap.Ns cenv.locals m₂ → m₂ y = some (.int b t) → (∀ z, z ≠ y → m₂ z = m z) → (∀ b o, b ≠ cenv.locals → b ≠ D → s.heap.get? b = some o → s₂.heap.get? b = some o) →
      wpAny (model prog w) A (eval elt cenv) (fun r s₃ => (∃ u, r = .int (f b) u) ∧ Keeps s₂ s₃) E' s₂) :
    wpAny (model prog w) A (pyIter (.ref tx)) (fun it s₁ => codeAny (model prog w) A (.compStart (LC2 elt x px iter ct y py iter2 scope pos) 1 it (.ref D) cenv) (fun r s' => r = .ok .next ∧ ∃ h' tk m' ys', s' = { s with heap := h', toks := tk } ∧ h'.Ns cenv.locals m' ∧ h'.PlainList D ys' ∧ IntsAre ys'.toList (zs ++ bs.map f) ∧
      (∀ b o, b ≠ cenv.locals → b ≠ D → s.heap.get? b = some o → h'.get? b = some o)) s₁) E s := by
  have hax : tx < s.heap.objs.size := by obtain ⟨_, e, _⟩ := id ht; exact Heap.lt_size e
  have hCI : cenv.locals ≠ s.heap.objs.size := Nat.ne_of_lt hn.lt
  have hDI : D ≠ s.heap.objs.size := by obtain ⟨_, e⟩ := id hD; exact Nat.ne_of_lt (Heap.lt_size e)
  have htC : tx ≠ cenv.locals := by
    rintro e
    obtain ⟨o, ho, _, n, hd⟩ := id ht
    obtain ⟨oL, _, _, hL, hdL, _⟩ := id hn
    rw [e, hL] at ho; cases ho
    rw [hdL] at hd; cases hd
  have htD : tx ≠ D := by
    rintro e
    obtain ⟨o, ho, hc, _⟩ := id ht
    obtain ⟨n, hL⟩ := id hD
    rw [e, hL] at ho; cases ho
    simp at hc
  refine wpAny_pyIter_tuple ht ?_
  have hit₀ : (s.heap.push { cls := .type "tuple_iterator", data := .fields #[.ref tx, .int 0 0] }).IsTupleIter s.heap.objs.size tx 0 := ⟨_, Heap.get?_push_size _ rfl, rfl, rfl⟩
  have loop : codeAny (model prog w) A (.compLoop (LC2 elt x px iter ct y py iter2 scope pos) 1 (.ref s.heap.objs.size) (.ref D) cenv) (fun r s' => r = .ok .next ∧ ∃ h' tk m' ys', s' = { s with heap := h', toks := tk } ∧ h'.Ns cenv.locals m' ∧ h'.PlainList D ys' ∧ IntsAre ys'.toList (zs ++ bs.map f) ∧
      (∀ b o, b ≠ cenv.locals → b ≠ D → s.heap.get? b = some o → h'.get? b = some o)) { s with heap := s.heap.push { cls := .type "tuple_iterator", data := .fields #[.ref tx, .int 0 0] } } := by
    refine loop2_in (fun k s' => ∃ h' tk m' ys' i, s' = { s with heap := h', toks := tk } ∧ h'.IsTupleIter s.heap.objs.size tx i ∧ h'.Ns cenv.locals m' ∧ (∀ z, z ≠ y → m' z = m z) ∧ h'.PlainList D ys' ∧ IntsAre ys'.toList (zs ++ (bs.take i).map f) ∧ i ≤ bs.length ∧ k = bs.length + 1 - i ∧
      (∀ b o, b ≠ cenv.locals → b ≠ D → s.heap.get? b = some o → h'.get? b = some o)) ?_ (bs.length + 1) ⟨_, s.toks, m, ys, 0, rfl, hit₀, hn.push _, fun _ _ => rfl, ?_, by simpa using hys, Nat.zero_le _, rfl, fun b o _ _ e => Heap.get?_push_of_some _ e⟩
    · rintro k s' ⟨h', tk, m', ys', i, rfl, hit, hn', hm', hD', hys', hi, rfl, hk⟩
      have ht' : h'.IsTuple tx its := by
        obtain ⟨o, e, r⟩ := id ht
        exact ⟨o, hk _ _ htC htD e, r⟩
      have hlen := IntsAre.length hb
      by_cases hlt : i < bs.length
      · have hlt' : i < its.toList.length := by rw [hlen]; exact hlt
        have hx0 : its.toList[i]? = some its.toList[i] := List.getElem?_eq_getElem hlt'
        have hx : its[i]? = some its.toList[i] := by rw [← hx0]; simp
        obtain ⟨b, t, eb, hbi⟩ := ints_at hb i _ hx0
        rw [eb] at hx
        refine wpAny_pyNext_tuple_item hit ht' hx fun h₁ hit₁ hs₁ => ?_
        refine wpAny_assign_Name (wpAny_storeName_local hy (hn'.at' fun o e => hs₁.extBut _ o hCI e) (fun h₂ hn₂ hs₂ => ?_) hp)
        have keep₂ : ∀ b o, b ≠ cenv.locals → b ≠ D → s.heap.get? b = some o → h₂.get? b = some o := fun b o h1 h2 e =>
          hs₂.extBut _ o h1 (hs₁.extBut _ o (Nat.ne_of_lt (Heap.lt_size e)) (hk b o h1 h2 e))
        refine wpAny_mono (helt b t _ _ _ (List.mem_of_getElem? hbi) hn₂ (by simp) (fun z hz => by simp only [if_neg hz]; exact hm' z hz) keep₂) (fun r s₃ hr => ?_) fun _ _ e => e
        obtain ⟨⟨u, rfl⟩, h₃, tk₃, rfl, hk₃⟩ := hr
        have hD₂ : h₂.PlainList D ys' := hD'.at fun o e => hs₂.extBut _ o hDC (hs₁.extBut _ o hDI e)
        have hys2 : ys'.size ≤ sizeLine := by
          have e1 := IntsAre.length hys'
          rw [List.length_append, List.length_map, List.length_take] at e1
          have e2 := IntsAre.length hys
          have e3 : ys.toList.length = ys.size := by simp
          have e4 : ys'.toList.length = ys'.size := by simp
          omega
        refine wpAny_list_append_plain (hsz := hys2) (hD₂.at fun o e => hk₃ _ o e) fun h₄ hD₄ hs₄ => ?_
        refine ⟨bs.length + 1 - (i + 1), by omega, h₄, tk₃, _, ys'.push (.int (f b) u), i + 1, rfl, ?_, (hn₂.keeps hk₃).sameBut hs₄ (Ne.symm hDC), fun z hz => by simp only [if_neg hz]; exact hm' z hz, hD₄, ?_, hlt, rfl, fun b o h1 h2 e => hs₄.extBut b o h2 (hk₃ _ _ (keep₂ b o h1 h2 e))⟩
        · exact ((hit₁.at fun o e => hs₂.extBut _ o (Ne.symm hCI) e).at fun o e => hk₃ _ o e).at fun o e => hs₄.extBut _ o (Ne.symm hDI) e
        · rw [List.take_add_one, hbi, Option.toList_some, List.map_append, ← List.append_assoc, Array.toList_push]
          exact ints_snoc' hys'
      · have hin : i = bs.length := by omega
        subst hin
        refine wpAny_pyNext_tuple_end hh hit ht' (by simp at hlen ⊢; omega) fun h₁ he₁ => ?_
        refine ⟨rfl, h₁, tk, m', ys', rfl, hn'.at' fun o e => he₁ _ o hCI e, hD'.at fun o e => he₁ _ o hDI e, by simpa using hys', fun b o h1 h2 e => he₁ _ o (Nat.ne_of_lt (Heap.lt_size e)) (hk b o h1 h2 e)⟩
    · exact hD.at fun o e => Heap.get?_push_of_some _ e
  exact start2_in loop (wpAny_pyIter_tupleiter hit₀ loop)
end
end Mine
namespace Mine
section
variable {prog : Program} {w : World} {A : Around} {E : Value → Shared → Prop} {s : Shared} {h₀ : Heap} {L : Addr} {m : Str → Option Value} {news : List (Addr × Obj)}
structure Comp2H (prog : Program) (w : World) (A : Around) (h₀ : Heap) (L : Addr) (env : Env) (scope : Scope) (cl : List (Str × Addr)) (x : Str) (ct : PySem.Expr) (y : Str) (iter2 elt : PySem.Expr) (Q : Value → Shared → Prop) (s₁ : Shared)
    (p : Int → Bool) (f : Int → Int → Int) (bs : List Int) (ax : Addr) (vs : List Value) (ns : List Int) (m : Str → Option Value) (news : List (Addr × Obj)) : Prop where
  F : Fr h₀ L s₁.heap m
  N : News h₀ L s₁.heap news
  l : s₁.heap.IsList ax vs.toArray
  i : IntsAre vs ns
  z : vs.length ≤ 1000
  b : bs.length ≤ 5
  h : A.handled = none
  test : ∀ C a t h tk m₃ E' g d o, a ∈ ns → Fr h₀ C h m₃ → News h₀ C h news → m₃ x = some (.int a t) → wpAny (model prog w) A (isTrue ct (compEnvC scope cl C env) (eval ct (compEnvC scope cl C env))) (fun ok s₄ => ok = p a ∧ Keeps { heap := h, toks := tk, gens := g, drawn := d, os := o } s₄) E' { heap := h, toks := tk, gens := g, drawn := d, os := o }
  tup : ∀ C h tk m₃ E' g d o, Fr h₀ C h m₃ → News h₀ C h news → wpAny (model prog w) A (eval iter2 (compEnvC scope cl C env)) (fun z s₄ => (∃ tx its, z = .ref tx ∧ s₄.heap.IsTuple tx its ∧ IntsAre its.toList bs) ∧ Keeps { heap := h, toks := tk, gens := g, drawn := d, os := o } s₄) E' { heap := h, toks := tk, gens := g, drawn := d, os := o }
  elt : ∀ C a t b u h tk m₃ E' g d o, a ∈ ns → p a = true → b ∈ bs → Fr h₀ C h m₃ → News h₀ C h news → m₃ x = some (.int a t) → m₃ y = some (.int b u) → wpAny (model prog w) A (eval elt (compEnvC scope cl C env)) (fun r s₄ => (∃ u, r = .int (f a b) u) ∧ Keeps { heap := h, toks := tk, gens := g, drawn := d, os := o } s₄) E' { heap := h, toks := tk, gens := g, drawn := d, os := o }
  cont : ∀ D ys n h' tk, Fr h₀ L h' m → News h₀ L h' ((D, listOf (List.toArray ys) n) :: news) → (∀ q ∈ news, q.1 ≠ D) → IntsAre ys ((ns.filter p).flatMap fun a => bs.map (f a)) → Q (.ref D) { s₁ with heap := h', toks := tk }
def Comp2At (prog : Program) (w : World) (A : Around) (h₀ : Heap) (L : Addr) (env : Env) (scope : Scope) (cl : List (Str × Addr)) (x : Str) (ct : PySem.Expr) (y : Str) (iter2 elt : PySem.Expr) (Q : Value → Shared → Prop) (xv : Value) (s₁ : Shared) : Prop :=
  ∃ p f bs ax vs ns m news, xv = .ref ax ∧ Comp2H prog w A h₀ L env scope cl x ct y iter2 elt Q s₁ p f bs ax vs ns m news
theorem flat_len (p : Int → Bool) (f : Int → Int → Int) (bs : List Int) (hb : bs.length ≤ 5) : ∀ ns : List Int, ((ns.filter p).flatMap fun a => bs.map (f a)).length ≤ 5 * ns.length
  | [] => by simp
  | a :: r => by
    have ih := flat_len p f bs hb r
    rw [List.filter_cons]
    cases p a with
    | false => rw [if_neg Bool.false_ne_true, List.length_cons]; omega
    | true => rw [if_pos rfl, List.flatMap_cons, List.length_append, List.length_map, List.length_cons]; omega
theorem Comp2_N {env : Env} {elt iter iter2 ct : PySem.Expr} {x y : Str} {px py : Pos} {scope : Scope} {cl : List (Str × Addr)} {pos : Pos} {Q : Value → Shared → Prop} (_F : Fr h₀ L s.heap m)
    (hclos : closureFor scope env = pure cl) (hcell : ∀ y ∈ scope.names, y.2 ≠ .cell) (hkind : scope.kind = .function)
    (hnames : ∀ y ∈ scope.names, y.2 = .local → scope.names.lookup y.1 = some .local) (hx : scope.names.lookup x = some .local) (hy : scope.names.lookup y = some .local) (hxy : x ≠ y)
    (h : wpAny (model prog w) A (eval iter env) (Comp2At prog w A h₀ L env scope cl x ct y iter2 elt Q) E s)
    (hs : ∀ x, foldedSetIterable iter env x = pure x := by intro _; rfl) (hs2 : ∀ env x, foldedSetIterable iter2 env x = pure x := by intro _ _; rfl) :
    wpAny (model prog w) A (eval (LC2 elt x px iter ct y py iter2 scope pos) env) Q E s := by
  rw [eval_ListComp]
  refine wpAny_comprehension_free (use := none) rfl hs hclos hkind hnames (wpAny_mono h (fun xv s₁ h₁ => ?_) fun _ _ e => e)
  obtain ⟨p, f, bs, ax, vs, ns, m', news', rfl, H⟩ := h₁
  have hl := H.l
  have hax : ax < s₁.heap.objs.size := by obtain ⟨_, e, _⟩ := id hl; exact Heap.lt_size e
  refine wpAny_pyIter_list hl ?_
  refine wpAny_newObj_type (wpAny_newFunctionEnv hcell (by intro y hy; simp at hy) (fun h₁ hns₁ hsb₁ => ?_) hkind)
  dsimp only at hns₁ hsb₁ ⊢
  generalize hH1 : s₁.heap.push { cls := .type "list_iterator", data := .fields #[.ref ax, .int 0 0] } = H1 at hns₁ hsb₁ ⊢
  have hI1 : H1.objs.size = s₁.heap.objs.size + 1 := by rw [← hH1, Heap.size_push]
  generalize hH2 : H1.push { cls := .type "list", dict := none, data := .seq ([] : List Value).toArray } = H2 at hns₁ hsb₁ ⊢
  have hC : H2.objs.size = H1.objs.size + 1 := by rw [← hH2, Heap.size_push]
  have hDC : H1.objs.size ≠ H2.objs.size := by rw [hC]; exact Nat.ne_of_lt (Nat.lt_succ_self _)
  have up1 : ∀ b o, s₁.heap.get? b = some o → H2.get? b = some o := fun b o e => hH2 ▸ Heap.get?_push_of_some _ (hH1 ▸ Heap.get?_push_of_some _ e)
  have lt1 : ∀ {b : Addr} {o : Obj}, s₁.heap.get? b = some o → b ≠ H2.objs.size ∧ b ≠ H1.objs.size ∧ b ≠ s₁.heap.objs.size := by
    intro b o e
    have h1 : @LT.lt Nat _ b s₁.heap.objs.size := Heap.lt_size e
    refine ⟨fun q => ?_, fun q => ?_, fun q => ?_⟩
    · have q' : @Eq Nat b H2.objs.size := q
      omega
    · have q' : @Eq Nat b H1.objs.size := q
      omega
    · have q' : @Eq Nat b s₁.heap.objs.size := q
      omega
  have hCI : H2.objs.size ≠ s₁.heap.objs.size := by omega
  have hDI : H1.objs.size ≠ s₁.heap.objs.size := by omega
  have hit₀ : H1.IsListIter s₁.heap.objs.size ax 0 := hH1 ▸ ⟨_, Heap.get?_push_size _ rfl, rfl, rfl⟩
  have hit₁ : h₁.IsListIter s₁.heap.objs.size ax 0 := hit₀.at fun o e => hsb₁.extBut _ _ (Ne.symm hCI) (Heap.get?_push_of_some _ (hH2 ▸ Heap.get?_push_of_some _ e))
  have hacc : h₁.PlainList H1.objs.size #[] := ⟨_, hsb₁.extBut _ _ hDC (Heap.get?_push_of_some _ (hH2 ▸ Heap.get?_push_size _ rfl))⟩
  have keep₁ : ∀ b o, s₁.heap.get? b = some o → h₁.get? b = some o := fun b o e => hsb₁.extBut b o (lt1 e).1 (Heap.get?_push_of_some _ (up1 b o e))
  have inner : ∀ {h' : Heap} {m₃ : Str → Option Value}, h'.Ns H2.objs.size m₃ → (∀ b o, s₁.heap.get? b = some o → h'.get? b = some o) → Fr h₀ H2.objs.size h' m₃ ∧ News h₀ H2.objs.size h' news' := by
    intro h' m₃ hn hk
    refine ⟨⟨hn, fun b o e => hk b o (H.F.keep b o e), ?_⟩, fun q hq => ⟨hk _ _ (H.N q hq).1, (lt1 (H.N q hq).1).1, (H.N q hq).2.2⟩⟩
    have h1 : @LE.le Nat _ h₀.objs.size L := H.F.above
    have h2 : @LT.lt Nat _ L s₁.heap.objs.size := H.F.ns.lt
    exact (by omega : @LE.le Nat _ h₀.objs.size H2.objs.size)
  have hkx : (compEnvC scope cl H2.objs.size env).kindOf x = some .local := lookup_relabel_local hx
  have hky : (compEnvC scope cl H2.objs.size env).kindOf y = some .local := lookup_relabel_local hy
  have hpc : ((compEnvC scope cl H2.objs.size env).scope.kind == .class || ((compEnvC scope cl H2.objs.size env).scope.kind == .module && (compEnvC scope cl H2.objs.size env).locals != (compEnvC scope cl H2.objs.size env).globals)) = false := by simp [compEnvC, relabel, hkind]
  have loop : ∀ tk₀, codeAny (model prog w) A (.compLoop (LC2 elt x px iter ct y py iter2 scope pos) 0 (.ref s₁.heap.objs.size) (.ref H1.objs.size) (compEnvC scope cl H2.objs.size env)) (compPost (model prog w) A E none Q (.ref H1.objs.size) H2.objs.size)
      { s₁ with heap := h₁, toks := tk₀ } := by
    intro tk₀
    refine loop2_out (fun k s' => ∃ h' tk m₂ ys i, s' = { s₁ with heap := h', toks := tk } ∧ h'.IsListIter s₁.heap.objs.size ax i ∧ h'.Ns H2.objs.size m₂ ∧ h'.PlainList H1.objs.size ys ∧ IntsAre ys.toList (((ns.take i).filter p).flatMap fun a => bs.map (f a)) ∧ i ≤ ns.length ∧ k = ns.length + 1 - i ∧
      (∀ b o, s₁.heap.get? b = some o → h'.get? b = some o)) ?_ (ns.length + 1) ⟨h₁, tk₀, _, #[], 0, rfl, hit₁, hns₁, hacc, by simpa using IntsAre.nil, Nat.zero_le _, rfl, keep₁⟩ (hs2 _)
    rintro k s' ⟨h', tk, m₂, ys, i, rfl, hit, hn, hD, hys, hi, rfl, hk⟩
    have hl' : h'.IsList ax vs.toArray := by obtain ⟨o, e, r⟩ := id hl; exact ⟨o, hk _ _ e, r⟩
    have hlen := IntsAre.length H.i
    by_cases hlt : i < ns.length
    · have hlt' : i < vs.length := by rw [hlen]; exact hlt
      have hx0 : vs[i]? = some vs[i] := List.getElem?_eq_getElem hlt'
      obtain ⟨a, t, ea, hai⟩ := ints_at H.i i _ hx0
      have hxa : vs.toArray[i]? = some (.int a t) := by rw [← ea, ← hx0]; simp
      have ham : a ∈ ns := List.mem_of_getElem? hai
      refine wpAny_pyNext_list_item hit hl' hxa fun h₂ hit₂ hs₂ => ?_
      refine wpAny_assign_Name (wpAny_storeName_local hkx (hn.at' fun o e => hs₂.extBut _ o hCI e) (fun h₃ hn₃ hs₃ => ?_) hpc)
      have keep₃ : ∀ b o, s₁.heap.get? b = some o → h₃.get? b = some o := fun b o e => hs₃.extBut _ o (lt1 e).1 (hs₂.extBut _ o (lt1 e).2.2 (hk b o e))
      obtain ⟨F₃, N₃⟩ := inner hn₃ keep₃
      refine wpAny_mono (H.test _ a t h₃ _ _ _ _ _ _ ham F₃ N₃ (by simp)) (fun ok s₄ h₄ => ?_) fun _ _ e => e
      obtain ⟨rfl, h₄, tk₄, rfl, hk₄⟩ := h₄
      have hn₄ := hn₃.keeps hk₄
      have keep₄ : ∀ b o, s₁.heap.get? b = some o → h₄.get? b = some o := fun b o e => hk₄ _ _ (keep₃ b o e)
      have hit₄ : h₄.IsListIter s₁.heap.objs.size ax (i + 1) := (hit₂.at fun o e => hs₃.extBut _ o (Ne.symm hCI) e).at fun o e => hk₄ _ o e
      have hD₄ : h₄.PlainList H1.objs.size ys := ((hD.at fun o e => hs₂.extBut _ o hDI e).at fun o e => hs₃.extBut _ o hDC e).at fun o e => hk₄ _ o e
      have step : ((ns.take (i + 1)).filter p).flatMap (fun a => bs.map (f a)) = ((ns.take i).filter p).flatMap (fun a => bs.map (f a)) ++ (if p a then bs.map (f a) else []) := by
        rw [List.take_add_one, hai, Option.toList_some, List.filter_append, List.flatMap_append, List.filter_cons]
        cases p a <;> simp
      cases hpa : p a with
      | false =>
        simp only [Bool.false_eq_true, if_false]
        refine ⟨ns.length + 1 - (i + 1), by omega, h₄, tk₄, _, ys, i + 1, rfl, hit₄, hn₄, hD₄, ?_, hlt, rfl, keep₄⟩
        rw [step, hpa]; simpa using hys
      | true =>
        simp only [if_true]
        obtain ⟨F₄, N₄⟩ := inner hn₄ keep₄
        refine wpAny_mono (H.tup _ h₄ _ _ _ _ _ _ F₄ N₄) (fun z s₅ h₅ => ?_) fun _ _ e => e
        obtain ⟨⟨tx, its, rfl, htx, hits⟩, h₅, tk₅, rfl, hk₅⟩ := h₅
        have keep₅ : ∀ b o, s₁.heap.get? b = some o → h₅.get? b = some o := fun b o e => hk₅ _ _ (keep₄ b o e)
        have hsz : ys.size + bs.length ≤ sizeLine := by
          have e1 := IntsAre.length hys
          have e2 := flat_len p f bs H.b (ns.take i)
          have e3 : ys.toList.length = ys.size := by simp
          have e4 : (ns.take i).length ≤ ns.length := by rw [List.length_take]; omega
          have e5 := H.z
          have e6 := H.b
          rw [sizeLine_eq]
          omega
        rw [Around.mark_none]
        refine wpAny_mono (in2_walk (elt := elt) (x := x) (px := px) (iter := iter) (ct := ct) (y := y) (py := py) (iter2 := iter2) (scope := scope) (pos := pos) (f := f a) (bs := bs) (m := fun z => if z = x then some (.int a t) else m₂ z) (s := { s₁ with heap := h₅, toks := tk₅ }) (cenv := compEnvC scope cl H2.objs.size env) H.h htx hits hky hpc hDC (hn₄.keeps hk₅) (hD₄.at fun o e => hk₅ _ o e) hys hsz ?_) (fun it s₆ h₆ => ?_) fun _ _ e => e
        · intro b u s₇ m₇ E' hbm hn₇ hmy hmz hk₇
          have keep₇ : ∀ b o, s₁.heap.get? b = some o → s₇.heap.get? b = some o := fun b o e => hk₇ b o (lt1 e).1 (lt1 e).2.1 (keep₅ b o e)
          obtain ⟨F₇, N₇⟩ := inner hn₇ keep₇
          exact H.elt _ a t b u s₇.heap s₇.toks m₇ E' s₇.gens s₇.drawn s₇.os ham hpa hbm F₇ N₇ (by rw [hmz x hxy]; simp) hmy
        · refine codeAny_mono h₆ fun r s₈ h₈ => ?_
          obtain ⟨rfl, h₈, tk₈, m₈, ys₈, rfl, hn₈, hD₈, hys₈, hk₈⟩ := h₈
          refine ⟨rfl, ns.length + 1 - (i + 1), by omega, h₈, tk₈, m₈, ys₈, i + 1, rfl, ?_, hn₈, hD₈, ?_, hlt, rfl, fun b o e => hk₈ b o (lt1 e).1 (lt1 e).2.1 (keep₅ b o e)⟩
          · exact (hit₄.at fun o e => hk₅ _ o e).at fun o e => hk₈ _ o (Ne.symm hCI) (Ne.symm hDI) e
          · rw [step, hpa]; simpa using hys₈
    · have hin : i = ns.length := by omega
      subst hin
      refine wpAny_pyNext_list_end H.h hit hl' (by simp; omega) fun h₂ he₂ => ?_
      refine ⟨m₂, hn.at' fun o e => he₂ _ o hCI e, fun h'' hs'' => ?_⟩
      have keep : ∀ b o, s₁.heap.get? b = some o → h''.get? b = some o := fun b o e => hs''.extBut b o (lt1 e).1 (he₂ _ o (lt1 e).2.2 (hk b o e))
      obtain ⟨n, hD'⟩ := (hD.at fun o e => he₂ _ o hDI e).at fun o e => hs''.extBut _ o hDC e
      refine H.cont H1.objs.size ys.toList n h'' tk (H.F.keeps keep) ?_ (fun q hq => (lt1 (H.N q hq).1).2.1) (by simpa using hys)
      intro q hq
      rcases List.mem_cons.mp hq with rfl | hq
      · refine ⟨by simpa using hD', ?_, ?_⟩
        · have h2 : @LT.lt Nat _ L s₁.heap.objs.size := H.F.ns.lt
          intro e
          have e' : @Eq Nat H1.objs.size L := e
          omega
        · cases e : h₀.get? H1.objs.size with
          | none => rfl
          | some o => exact absurd rfl (lt1 (H.F.keep _ _ e)).2.1
      · exact ⟨keep _ _ (H.N q hq).1, (H.N q hq).2⟩
  exact codeAny_compStart_list (loop _) (wpAny_pyIter_listiter hit₁ (loop _))
end
end Mine
namespace Mine
theorem upd_of {D : Addr} {o o' : Obj} : ∀ {pre post : List (Addr × Obj)}, (∀ p ∈ pre, p.1 ≠ D) → (∀ p ∈ post, p.1 ≠ D) → Upd D o o' (pre ++ (D, o) :: post) (pre ++ (D, o') :: post)
  | [], _, _, h2 => .head h2
  | p :: r, _, h1, h2 => .tail (h1 p (.head _)) (upd_of (fun q hq => h1 q (.tail _ hq)) h2)
theorem any_range (ns : List Int) : (List.range ns.length).map (fun i => ns.getD i 0) = ns := by
  apply List.ext_getElem
  · simp
  · intro i h1 h2
    simp [List.getD_eq_getElem?_getD, List.getElem?_eq_getElem h2]
section
variable {prog : Program} {w : World} {A : Around} {E : Value → Shared → Prop} {s : Shared} {h₀ : Heap} {L : Addr} {m : Str → Option Value} {news news' : List (Addr × Obj)}
theorem append_G {D : Addr} {its : List Value} {n : Nat} {x : Value} {Q : Value → Shared → Prop} (F : Fr h₀ L s.heap m) (N : News h₀ L s.heap news) (U : Upd D (listOf its.toArray n) (listOf (its ++ [x]).toArray (n + 1)) news news') (hz : its.length ≤ 5000)
    (h : ∀ h', Fr h₀ L h' m → News h₀ L h' news' → Q .none { s with heap := h' }) : wpAny (model prog w) A (call (.builtin "list.append") [.ref D, x]) Q E s := by
  have e : (its ++ [x]).toArray = its.toArray.push x := by simp
  rw [e] at U
  exact append_K F N U h (by rw [sizeLine_eq]; simp; omega)
theorem extend_N {D b : Addr} {its its2 : List Value} {n n2 : Nat} {g : Obj → List (Addr × Obj)} {Q : Value → Shared → Prop} (F : Fr h₀ L s.heap m) (N : News h₀ L s.heap news) (hb : (b, listOf (List.toArray its2) n2) ∈ news) (U : UpdF D (listOf (List.toArray its) n) news g) (hz : its.length + its2.length ≤ 5000)
    (h : ∀ h' n', Fr h₀ L h' m → News h₀ L h' (g (listOf (List.toArray (its ++ its2)) n')) → Q .none { s with heap := h' }) : wpAny (model prog w) A (call (.builtin "list.extend") [.ref D, .ref b]) Q E s := by
  obtain ⟨pre, post, rfl, hg, h1, h2⟩ := U.split
  have hd : ¬(!(its.toArray).isEmpty && Builtin.List.listTooLong ((its.toArray).size + (its2.toArray).size)) = true := extend_door (by simp only [List.size_toArray]; rw [sizeLine_eq]; omega)
  by_cases e : its2 = []
  · subst e
    refine kxn_extend (its := its.toArray) (its2 := #[]) F N hb rfl (upd_of h1 h2) hd (by simp only [List.length_nil] at hz; rw [sizeLine_eq]; simp; omega) (by simp only [List.length_nil] at hz; rw [sizeLine_eq]; simp; omega) fun h' F' N' => h h' n F' ?_
    rw [hg, List.append_nil]
    exact N'
  · refine kl_extend (its := its.toArray) (its2 := its2.toArray) (l := its ++ its2) F N hb rfl (by simpa using e) (upd_of h1 h2) hd (by rw [sizeLine_eq]; simp; omega) (by rw [sizeLine_eq]; simp; omega) fun h' F' N' => h h' (n + 1) F' ?_
    rw [hg]
    exact N'
theorem set_list_N {l : Addr} {vs : List Value} {na : Nat} {ns : List Int} {Q : Value → Shared → Prop} (F : Fr h₀ L s.heap m) (N : News h₀ L s.heap news) (hm : (l, listOf (List.toArray vs) na) ∈ news) (hh : A.handled = none) (hi : IntsAre vs ns) (hb : vs.length ≤ 1000)
    (h : ∀ S so h' tk, Fr h₀ L h' m → News h₀ L h' ((S, so) :: news) → (∀ p ∈ news, p.1 < S) → IsHas so (fun k' => decide (k' ∈ ns)) → Q (.ref S) { s with heap := h', toks := tk }) :
    wpAny (model prog w) A (call (.type "set") [.ref l]) Q E s := by
  refine call_set_list (ns := ns) hh ⟨_, (N _ hm).1, rfl, na, rfl⟩ hi (by simp [scanBound]; omega) fun h' tk hS hk => ?_
  obtain ⟨so, ho, hs⟩ := isHas_of hS
  have hk' : ∀ b o, s.heap.get? b = some o → h'.get? b = some o := fun b o e => hk b o (Heap.lt_size e) e
  have hlen : vs.toArray.size = ns.length := by rw [List.size_toArray]; exact IntsAre.length hi
  rw [hlen] at hs
  refine h _ so h' tk (F.keeps hk') (News_new F N hk' (Nat.le_refl _) ho) (fun p hp => Heap.lt_size (N p hp).1) (hs.congr fun k => ?_)
  rw [firstMet_any, any_range, Bool.eq_iff_iff, List.any_eq_true, decide_eq_true_iff]
  constructor
  · rintro ⟨x, hx, e⟩
    rw [← beq_iff_eq.mp e]; exact hx
  · intro hx
    exact ⟨k, hx, beq_iff_eq.mpr rfl⟩
end
end Mine
namespace Mine
section
variable {prog : Program} {w : World} {A : Around} {E : Value → Shared → Prop} {s : Shared} {h₀ : Heap} {L : Addr} {m : Str → Option Value} {news : List (Addr × Obj)}
/-- a comprehension's end, plain or with its store -/
def CompFin (prog : Program) (w : World) (A : Around) (E : Value → Shared → Prop) (_h₀ : Heap) (_L : Addr) (use : Option (Value → Sem Unit)) (Q : Value → Shared → Prop) (s₁ : Shared) (_m : Str → Option Value) (_news : List (Addr × Obj)) (P : List Value → Prop) : Prop :=
  ∀ D C ys n h' tk m'', s₁.heap.get? D = none → s₁.heap.get? C = none → D ≠ C → h'.Ns C m'' → h'.get? D = some (listOf (List.toArray ys) n) → (∀ b o, s₁.heap.get? b = some o → h'.get? b = some o) → P ys →
    compPost (model prog w) A E use Q (.ref D) C (.ok .next) { s₁ with heap := h', toks := tk }
theorem fresh_ledger {h h'' : Heap} {D : Addr} {o : Obj} (F : Fr h₀ L h m) (N : News h₀ L h news) (hD : h.get? D = none) (keep : ∀ b o, h.get? b = some o → h''.get? b = some o) (ho : h''.get? D = some o) :
    News h₀ L h'' ((D, o) :: news) ∧ ∀ q ∈ news, q.1 ≠ D := by
  refine ⟨fun q hq => ?_, fun q hq e => ?_⟩
  · rcases List.mem_cons.mp hq with rfl | hq
    · refine ⟨ho, ?_, ?_⟩
      · rintro rfl
        obtain ⟨oL, _, _, hL, _⟩ := F.ns
        rw [hD] at hL; cases hL
      · cases e : h₀.get? D with
        | none => rfl
        | some o => rw [F.keep _ _ e] at hD; cases hD
    · exact ⟨keep _ _ (N q hq).1, (N q hq).2⟩
  · have := (N q hq).1
    rw [e, hD] at this; cases this
theorem compFin_none {Q : Value → Shared → Prop} {s₁ : Shared} {P : List Value → Prop} (F : Fr h₀ L s₁.heap m) (N : News h₀ L s₁.heap news)
    (h : ∀ D ys n h' tk, Fr h₀ L h' m → News h₀ L h' ((D, listOf (List.toArray ys) n) :: news) → (∀ q ∈ news, q.1 ≠ D) → P ys → Q (.ref D) { s₁ with heap := h', toks := tk }) : CompFin prog w A E h₀ L none Q s₁ m news P := by
  intro D C ys n h' tk m'' hD hC hDC hn hl hk hP
  refine ⟨m'', hn, fun h'' hs'' => ?_⟩
  have keep : ∀ b o, s₁.heap.get? b = some o → h''.get? b = some o := fun b o e => hs''.extBut b o (by rintro rfl; rw [hC] at e; cases e) (hk b o e)
  obtain ⟨N', hne⟩ := fresh_ledger F N hD keep (hs''.extBut _ _ hDC hl)
  exact h D ys n h'' tk (F.keeps keep) N' hne hP
theorem compFin_store {env : Env} {y : Str} {py : Pos} {Q : Value → Shared → Prop} {s₁ : Shared} {P : List Value → Prop} (F : Fr h₀ L s₁.heap m) (N : News h₀ L s₁.heap news) (hL : env.locals = L) (hy : env.kindOf y = some .local)
    (hp : (env.scope.kind == .class || (env.scope.kind == .module && env.locals != env.globals)) = false)
    (h : ∀ D ys n h' tk, Fr h₀ L h' (fun z => if z = y then some (.ref D) else m z) → News h₀ L h' ((D, listOf (List.toArray ys) n) :: news) → (∀ q ∈ news, q.1 ≠ D) → P ys → Q .none { s₁ with heap := h', toks := tk }) :
    CompFin prog w A E h₀ L (some (assign (.Name y py) env)) Q s₁ m news P := by
  intro D C ys n h' tk m'' hD hC hDC hn hl hk hP
  subst hL
  have F' : Fr h₀ env.locals h' m := F.keeps hk
  have hLC : env.locals ≠ C := by
    rintro e
    obtain ⟨oL, _, _, hL, _⟩ := F.ns
    rw [e, hC] at hL; cases hL
  have hLD : D ≠ env.locals := by
    rintro e
    obtain ⟨oL, _, _, hL, _⟩ := F.ns
    rw [← e, hD] at hL; cases hL
  show wpAny _ A (assign (.Name y py) env (.ref D)) _ _ _
  refine wpAny_assign_Name (wpAny_storeName_local hy F'.ns (fun h₂ hn₂ hs₂ => ?_) hp)
  refine ⟨m'', hn.sameBut hs₂ (Ne.symm hLC), fun h₃ hs₃ => ?_⟩
  obtain ⟨N', hne⟩ := fresh_ledger F N hD hk hl
  have F₂ := F'.set hn₂ hs₂
  have N₂ := N'.set hs₂
  have hC0 : h₀.get? C = none := by
    cases e : h₀.get? C with
    | none => rfl
    | some o => rw [F.keep _ _ e] at hC; cases hC
  refine h D ys n h₃ _ (F₂.change hs₃ (Ne.symm hLC) hC0) (fun q hq => ⟨hs₃.extBut _ _ ?_ (N₂ q hq).1, (N₂ q hq).2⟩) hne hP
  rcases List.mem_cons.mp hq with rfl | hq
  · exact hDC
  · rintro e
    have := (N q hq).1
    rw [e, hC] at this; cases this
/-- [elt for x in l if ..]: the walk stands at the source -/
def CompAtU (use : Option (Value → Sem Unit)) (E : Value → Shared → Prop) (prog : Program) (w : World) (A : Around) (h₀ : Heap) (L : Addr) (env : Env) (scope : Scope) (cl : List (Str × Addr)) (x : Str) (ifs : List PySem.Expr) (elt : PySem.Expr) (Q : Value → Shared → Prop) (xv : Value) (s₁ : Shared) : Prop :=
  ∃ (ax : Addr) (vs : List Value) (m : Str → Option Value) (news : List (Addr × Obj)) (p : Value → Bool) (R : Value → Value → Prop), xv = .ref ax ∧ Fr h₀ L s₁.heap m ∧ News h₀ L s₁.heap news ∧ s₁.heap.IsList ax vs.toArray ∧ vs.length ≤ sizeLine ∧ A.handled = none ∧
    QuietT prog w A h₀ news (fun C => compEnvC scope cl C env) x ifs (· ∈ vs) p ∧ QuietE prog w A h₀ news (fun C => compEnvC scope cl C env) x elt (· ∈ vs) p R ∧
    CompFin prog w A E h₀ L use Q s₁ m news (fun ys => Paired R (vs.filter p) ys)
theorem CompU_N {env : Env} {elt iter : PySem.Expr} {x : Str} {px : Pos} {ifs : List PySem.Expr} {scope : Scope} {cl : List (Str × Addr)} {pos pos2 : Pos} {Q : Value → Shared → Prop} (F : Fr h₀ L s.heap m)
    (hclos : closureFor scope env = pure cl) (hcell : ∀ y ∈ scope.names, y.2 ≠ .cell) (hkind : scope.kind = .function)
    (hnames : ∀ y ∈ scope.names, y.2 = .local → scope.names.lookup y.1 = some .local) (hx : scope.names.lookup x = some .local)
    (use : Option (Value → Sem Unit)) (h : wpAny (model prog w) A (eval iter env) (CompAtU use E prog w A h₀ L env scope cl x ifs elt Q) E s)
    (hs : ∀ x, foldedSetIterable iter env x = pure x := by intro _; rfl) :
    wpAny (model prog w) A (comprehension (.ListComp elt [⟨.Name x px, iter, ifs, 0⟩] scope pos) scope env pos2 (newList []) false (eval iter env) use) Q E s := by
  refine wpAny_comprehension_free (use := use) rfl hs hclos hkind hnames (wpAny_mono h (fun xv s₁ h₁ => ?_) fun _ _ e => e)
  obtain ⟨ax, vs, m', news', p, R, rfl, F', N', hl, hsz, hh, ht, he, hQ⟩ := h₁
  have hax : ax < s₁.heap.objs.size := by obtain ⟨_, e, _⟩ := id hl; exact Heap.lt_size e
  have notI : ∀ b, b < s₁.heap.objs.size → b ∉ [s₁.heap.objs.size] := fun b hb hm => by
    rcases List.mem_cons.mp hm with e | hm
    · exact Nat.lt_irrefl _ (e ▸ hb)
    · cases hm
  refine wpAny_pyIter_list hl ?_
  have W := Walks.list (prog := prog) (w := w) hh s₁.heap.objs.size ax (Nat.ne_of_lt hax) vs.toArray
  have there : ∀ {s₃ : Shared}, (∀ b o, b ∉ [s₁.heap.objs.size] → (s₁.heap.push { cls := .type "list_iterator", data := .fields #[.ref ax, .int 0 0] }).get? b = some o → s₃.heap.get? b = some o) → ∀ b o, s₁.heap.get? b = some o → s₃.heap.get? b = some o :=
    fun k b o e => k b o (notI b (Heap.lt_size e)) (Heap.get?_push_of_some _ e)
  have inner : ∀ {C : Addr} {s₃ : Shared} {m₃ : Str → Option Value}, (s₁.heap.push { cls := .type "list_iterator", data := .fields #[.ref ax, .int 0 0] }).objs.size ≤ C → s₃.heap.Ns C m₃ →
      (∀ b o, b ∉ [s₁.heap.objs.size] → (s₁.heap.push { cls := .type "list_iterator", data := .fields #[.ref ax, .int 0 0] }).get? b = some o → s₃.heap.get? b = some o) → Fr h₀ C s₃.heap m₃ ∧ News h₀ C s₃.heap news' := by
    intro C s₃ m₃ hC hn hk
    have hsC : s₁.heap.objs.size ≤ C := Nat.le_trans (by rw [Heap.size_push]; exact Nat.le_succ _) hC
    refine ⟨⟨hn, fun b o e => there hk b o (F'.keep b o e), ?_⟩, fun q hq => ⟨there hk _ _ (N' q hq).1, ?_, (N' q hq).2.2⟩⟩
    · exact Nat.le_trans (Nat.le_trans F'.above (Nat.le_of_lt F'.ns.lt)) hsC
    · exact Nat.ne_of_lt (Nat.lt_of_lt_of_le (Heap.lt_size (N' q hq).1) hsC)
  have memv : ∀ {i : Nat} {v : Value}, vs.toArray[i]? = some v → v ∈ vs := fun h => by
    rw [List.getElem?_toArray] at h
    exact List.mem_of_getElem? h
  refine comp_block_walkC (RR := fun acc C => compPost (model prog w) A E use Q acc C) W (by simpa using hsz) p R hcell hkind hx ?_ ?_ ⟨?_, ?_⟩ ?_
  · exact ⟨⟨_, Heap.get?_push_size _ rfl, rfl, rfl⟩, hl.push _⟩
  · intro b hb
    show b < (s₁.heap.push _).objs.size
    rw [Heap.size_push]
    rcases List.mem_cons.mp hb with rfl | hb
    · exact Nat.lt_succ_self _
    · rcases List.mem_cons.mp hb with rfl | hb
      · exact Nat.lt_succ_of_lt hax
      · cases hb
  · intro C i v s₃ m₃ E' hC hP hn hm hold _
    obtain ⟨F₃, N₃⟩ := inner hC hn hold
    exact ht C v s₃.heap s₃.toks m₃ E' s₃.gens s₃.drawn s₃.os (memv hP) F₃ N₃ hm
  · intro C i v s₃ m₃ E' hC hP hp hn hm hold _
    obtain ⟨F₃, N₃⟩ := inner hC hn hold
    exact he C v s₃.heap s₃.toks m₃ E' s₃.gens s₃.drawn s₃.os (memv hP) hp F₃ N₃ hm
  · intro D C h' tk m'' ys vs' hD hC hDC hn hlD hpl hlen hP hF hk
    have hh₁ : ∀ b o, s₁.heap.get? b = some o → h'.get? b = some o := there (s₃ := { s₁ with heap := h' }) hk
    have hszp : (s₁.heap.push { cls := .type "list_iterator", data := .fields #[.ref ax, .int 0 0] }).objs.size = s₁.heap.objs.size + 1 := Heap.size_push ..
    have hDn : s₁.heap.get? D = none := by
      cases e : s₁.heap.get? D with
      | none => rfl
      | some o => rw [show (s₁.heap.push { cls := .type "list_iterator", data := .fields #[.ref ax, .int 0 0] }).get? D = some o from Heap.get?_push_of_some _ e] at hD; cases hD
    have hCn : s₁.heap.get? C = none := by
      cases e : s₁.heap.get? C with
      | none => rfl
      | some o => rw [show (s₁.heap.push { cls := .type "list_iterator", data := .fields #[.ref ax, .int 0 0] }).get? C = some o from Heap.get?_push_of_some _ e] at hC; cases hC
    have hv : vs' = vs := list_of_places (by simpa using hlen) hP
    subst hv
    obtain ⟨n, hD'⟩ := hpl
    exact hQ D C ys.toList n h' tk m'' hDn hCn hDC hn (by simpa using hD') hh₁ hF
structure Comp2HU (use : Option (Value → Sem Unit)) (E : Value → Shared → Prop) (prog : Program) (w : World) (A : Around) (h₀ : Heap) (L : Addr) (env : Env) (scope : Scope) (cl : List (Str × Addr)) (x : Str) (ct : PySem.Expr) (y : Str) (iter2 elt : PySem.Expr) (Q : Value → Shared → Prop) (s₁ : Shared)
    (p : Int → Bool) (f : Int → Int → Int) (bs : List Int) (ax : Addr) (vs : List Value) (ns : List Int) (m : Str → Option Value) (news : List (Addr × Obj)) : Prop where
  F : Fr h₀ L s₁.heap m
  N : News h₀ L s₁.heap news
  l : s₁.heap.IsList ax vs.toArray
  i : IntsAre vs ns
  z : vs.length ≤ 1000
  b : bs.length ≤ 5
  h : A.handled = none
  test : ∀ C a t h tk m₃ E' g d o, a ∈ ns → Fr h₀ C h m₃ → News h₀ C h news → m₃ x = some (.int a t) → wpAny (model prog w) A (isTrue ct (compEnvC scope cl C env) (eval ct (compEnvC scope cl C env))) (fun ok s₄ => ok = p a ∧ Keeps { heap := h, toks := tk, gens := g, drawn := d, os := o } s₄) E' { heap := h, toks := tk, gens := g, drawn := d, os := o }
  tup : ∀ C h tk m₃ E' g d o, Fr h₀ C h m₃ → News h₀ C h news → wpAny (model prog w) A (eval iter2 (compEnvC scope cl C env)) (fun z s₄ => (∃ tx its, z = .ref tx ∧ s₄.heap.IsTuple tx its ∧ IntsAre its.toList bs) ∧ Keeps { heap := h, toks := tk, gens := g, drawn := d, os := o } s₄) E' { heap := h, toks := tk, gens := g, drawn := d, os := o }
  elt : ∀ C a t b u h tk m₃ E' g d o, a ∈ ns → p a = true → b ∈ bs → Fr h₀ C h m₃ → News h₀ C h news → m₃ x = some (.int a t) → m₃ y = some (.int b u) → wpAny (model prog w) A (eval elt (compEnvC scope cl C env)) (fun r s₄ => (∃ u, r = .int (f a b) u) ∧ Keeps { heap := h, toks := tk, gens := g, drawn := d, os := o } s₄) E' { heap := h, toks := tk, gens := g, drawn := d, os := o }
  cont : CompFin prog w A E h₀ L use Q s₁ m news (fun ys => IntsAre ys ((ns.filter p).flatMap fun a => bs.map (f a)))
def Comp2AtU (use : Option (Value → Sem Unit)) (E : Value → Shared → Prop) (prog : Program) (w : World) (A : Around) (h₀ : Heap) (L : Addr) (env : Env) (scope : Scope) (cl : List (Str × Addr)) (x : Str) (ct : PySem.Expr) (y : Str) (iter2 elt : PySem.Expr) (Q : Value → Shared → Prop) (xv : Value) (s₁ : Shared) : Prop :=
  ∃ p f bs ax vs ns m news, xv = .ref ax ∧ Comp2HU use E prog w A h₀ L env scope cl x ct y iter2 elt Q s₁ p f bs ax vs ns m news
theorem Comp2U_N {env : Env} {elt iter iter2 ct : PySem.Expr} {x y : Str} {px py : Pos} {scope : Scope} {cl : List (Str × Addr)} {pos pos2 : Pos} {Q : Value → Shared → Prop} (_F : Fr h₀ L s.heap m)
    (hclos : closureFor scope env = pure cl) (hcell : ∀ y ∈ scope.names, y.2 ≠ .cell) (hkind : scope.kind = .function)
    (hnames : ∀ y ∈ scope.names, y.2 = .local → scope.names.lookup y.1 = some .local) (hx : scope.names.lookup x = some .local) (hy : scope.names.lookup y = some .local) (hxy : x ≠ y)
    (use : Option (Value → Sem Unit)) (h : wpAny (model prog w) A (eval iter env) (Comp2AtU use E prog w A h₀ L env scope cl x ct y iter2 elt Q) E s)
    (hs : ∀ x, foldedSetIterable iter env x = pure x := by intro _; rfl) (hs2 : ∀ env x, foldedSetIterable iter2 env x = pure x := by intro _ _; rfl) :
    wpAny (model prog w) A (comprehension (LC2 elt x px iter ct y py iter2 scope pos) scope env pos2 (newList []) false (eval iter env) use) Q E s := by
  refine wpAny_comprehension_free (use := use) rfl hs hclos hkind hnames (wpAny_mono h (fun xv s₁ h₁ => ?_) fun _ _ e => e)
  obtain ⟨p, f, bs, ax, vs, ns, m', news', rfl, H⟩ := h₁
  have hl := H.l
  have hax : ax < s₁.heap.objs.size := by obtain ⟨_, e, _⟩ := id hl; exact Heap.lt_size e
  refine wpAny_pyIter_list hl ?_
  refine wpAny_newObj_type (wpAny_newFunctionEnv hcell (by intro y hy; simp at hy) (fun h₁ hns₁ hsb₁ => ?_) hkind)
  dsimp only at hns₁ hsb₁ ⊢
  generalize hH1 : s₁.heap.push { cls := .type "list_iterator", data := .fields #[.ref ax, .int 0 0] } = H1 at hns₁ hsb₁ ⊢
  have hI1 : H1.objs.size = s₁.heap.objs.size + 1 := by rw [← hH1, Heap.size_push]
  generalize hH2 : H1.push { cls := .type "list", dict := none, data := .seq ([] : List Value).toArray } = H2 at hns₁ hsb₁ ⊢
  have hC : H2.objs.size = H1.objs.size + 1 := by rw [← hH2, Heap.size_push]
  have hDC : H1.objs.size ≠ H2.objs.size := by rw [hC]; exact Nat.ne_of_lt (Nat.lt_succ_self _)
  have up1 : ∀ b o, s₁.heap.get? b = some o → H2.get? b = some o := fun b o e => hH2 ▸ Heap.get?_push_of_some _ (hH1 ▸ Heap.get?_push_of_some _ e)
  have lt1 : ∀ {b : Addr} {o : Obj}, s₁.heap.get? b = some o → b ≠ H2.objs.size ∧ b ≠ H1.objs.size ∧ b ≠ s₁.heap.objs.size := by
    intro b o e
    have h1 : @LT.lt Nat _ b s₁.heap.objs.size := Heap.lt_size e
    refine ⟨fun q => ?_, fun q => ?_, fun q => ?_⟩
    · have q' : @Eq Nat b H2.objs.size := q
      omega
    · have q' : @Eq Nat b H1.objs.size := q
      omega
    · have q' : @Eq Nat b s₁.heap.objs.size := q
      omega
  have hCI : H2.objs.size ≠ s₁.heap.objs.size := by omega
  have hDI : H1.objs.size ≠ s₁.heap.objs.size := by omega
  have hit₀ : H1.IsListIter s₁.heap.objs.size ax 0 := hH1 ▸ ⟨_, Heap.get?_push_size _ rfl, rfl, rfl⟩
  have hit₁ : h₁.IsListIter s₁.heap.objs.size ax 0 := hit₀.at fun o e => hsb₁.extBut _ _ (Ne.symm hCI) (Heap.get?_push_of_some _ (hH2 ▸ Heap.get?_push_of_some _ e))
  have hacc : h₁.PlainList H1.objs.size #[] := ⟨_, hsb₁.extBut _ _ hDC (Heap.get?_push_of_some _ (hH2 ▸ Heap.get?_push_size _ rfl))⟩
  have keep₁ : ∀ b o, s₁.heap.get? b = some o → h₁.get? b = some o := fun b o e => hsb₁.extBut b o (lt1 e).1 (Heap.get?_push_of_some _ (up1 b o e))
  have inner : ∀ {h' : Heap} {m₃ : Str → Option Value}, h'.Ns H2.objs.size m₃ → (∀ b o, s₁.heap.get? b = some o → h'.get? b = some o) → Fr h₀ H2.objs.size h' m₃ ∧ News h₀ H2.objs.size h' news' := by
    intro h' m₃ hn hk
    refine ⟨⟨hn, fun b o e => hk b o (H.F.keep b o e), ?_⟩, fun q hq => ⟨hk _ _ (H.N q hq).1, (lt1 (H.N q hq).1).1, (H.N q hq).2.2⟩⟩
    have h1 : @LE.le Nat _ h₀.objs.size L := H.F.above
    have h2 : @LT.lt Nat _ L s₁.heap.objs.size := H.F.ns.lt
    exact (by omega : @LE.le Nat _ h₀.objs.size H2.objs.size)
  have hkx : (compEnvC scope cl H2.objs.size env).kindOf x = some .local := lookup_relabel_local hx
  have hky : (compEnvC scope cl H2.objs.size env).kindOf y = some .local := lookup_relabel_local hy
  have hpc : ((compEnvC scope cl H2.objs.size env).scope.kind == .class || ((compEnvC scope cl H2.objs.size env).scope.kind == .module && (compEnvC scope cl H2.objs.size env).locals != (compEnvC scope cl H2.objs.size env).globals)) = false := by simp [compEnvC, relabel, hkind]
  have loop : ∀ tk₀, codeAny (model prog w) A (.compLoop (LC2 elt x px iter ct y py iter2 scope pos) 0 (.ref s₁.heap.objs.size) (.ref H1.objs.size) (compEnvC scope cl H2.objs.size env)) (compPost (model prog w) A E use Q (.ref H1.objs.size) H2.objs.size)
      { s₁ with heap := h₁, toks := tk₀ } := by
    intro tk₀
    refine loop2_out (fun k s' => ∃ h' tk m₂ ys i, s' = { s₁ with heap := h', toks := tk } ∧ h'.IsListIter s₁.heap.objs.size ax i ∧ h'.Ns H2.objs.size m₂ ∧ h'.PlainList H1.objs.size ys ∧ IntsAre ys.toList (((ns.take i).filter p).flatMap fun a => bs.map (f a)) ∧ i ≤ ns.length ∧ k = ns.length + 1 - i ∧
      (∀ b o, s₁.heap.get? b = some o → h'.get? b = some o)) ?_ (ns.length + 1) ⟨h₁, tk₀, _, #[], 0, rfl, hit₁, hns₁, hacc, by simpa using IntsAre.nil, Nat.zero_le _, rfl, keep₁⟩ (hs2 _)
    rintro k s' ⟨h', tk, m₂, ys, i, rfl, hit, hn, hD, hys, hi, rfl, hk⟩
    have hl' : h'.IsList ax vs.toArray := by obtain ⟨o, e, r⟩ := id hl; exact ⟨o, hk _ _ e, r⟩
    have hlen := IntsAre.length H.i
    by_cases hlt : i < ns.length
    · have hlt' : i < vs.length := by rw [hlen]; exact hlt
      have hx0 : vs[i]? = some vs[i] := List.getElem?_eq_getElem hlt'
      obtain ⟨a, t, ea, hai⟩ := ints_at H.i i _ hx0
      have hxa : vs.toArray[i]? = some (.int a t) := by rw [← ea, ← hx0]; simp
      have ham : a ∈ ns := List.mem_of_getElem? hai
      refine wpAny_pyNext_list_item hit hl' hxa fun h₂ hit₂ hs₂ => ?_
      refine wpAny_assign_Name (wpAny_storeName_local hkx (hn.at' fun o e => hs₂.extBut _ o hCI e) (fun h₃ hn₃ hs₃ => ?_) hpc)
      have keep₃ : ∀ b o, s₁.heap.get? b = some o → h₃.get? b = some o := fun b o e => hs₃.extBut _ o (lt1 e).1 (hs₂.extBut _ o (lt1 e).2.2 (hk b o e))
      obtain ⟨F₃, N₃⟩ := inner hn₃ keep₃
      refine wpAny_mono (H.test _ a t h₃ _ _ _ _ _ _ ham F₃ N₃ (by simp)) (fun ok s₄ h₄ => ?_) fun _ _ e => e
      obtain ⟨rfl, h₄, tk₄, rfl, hk₄⟩ := h₄
      have hn₄ := hn₃.keeps hk₄
      have keep₄ : ∀ b o, s₁.heap.get? b = some o → h₄.get? b = some o := fun b o e => hk₄ _ _ (keep₃ b o e)
      have hit₄ : h₄.IsListIter s₁.heap.objs.size ax (i + 1) := (hit₂.at fun o e => hs₃.extBut _ o (Ne.symm hCI) e).at fun o e => hk₄ _ o e
      have hD₄ : h₄.PlainList H1.objs.size ys := ((hD.at fun o e => hs₂.extBut _ o hDI e).at fun o e => hs₃.extBut _ o hDC e).at fun o e => hk₄ _ o e
      have step : ((ns.take (i + 1)).filter p).flatMap (fun a => bs.map (f a)) = ((ns.take i).filter p).flatMap (fun a => bs.map (f a)) ++ (if p a then bs.map (f a) else []) := by
        rw [List.take_add_one, hai, Option.toList_some, List.filter_append, List.flatMap_append, List.filter_cons]
        cases p a <;> simp
      cases hpa : p a with
      | false =>
        simp only [Bool.false_eq_true, if_false]
        refine ⟨ns.length + 1 - (i + 1), by omega, h₄, tk₄, _, ys, i + 1, rfl, hit₄, hn₄, hD₄, ?_, hlt, rfl, keep₄⟩
        rw [step, hpa]; simpa using hys
      | true =>
        simp only [if_true]
        obtain ⟨F₄, N₄⟩ := inner hn₄ keep₄
        refine wpAny_mono (H.tup _ h₄ _ _ _ _ _ _ F₄ N₄) (fun z s₅ h₅ => ?_) fun _ _ e => e
        obtain ⟨⟨tx, its, rfl, htx, hits⟩, h₅, tk₅, rfl, hk₅⟩ := h₅
        have keep₅ : ∀ b o, s₁.heap.get? b = some o → h₅.get? b = some o := fun b o e => hk₅ _ _ (keep₄ b o e)
        have hsz : ys.size + bs.length ≤ sizeLine := by
          have e1 := IntsAre.length hys
          have e2 := flat_len p f bs H.b (ns.take i)
          have e3 : ys.toList.length = ys.size := by simp
          have e4 : (ns.take i).length ≤ ns.length := by rw [List.length_take]; omega
          have e5 := H.z
          have e6 := H.b
          rw [sizeLine_eq]
          omega
        rw [Around.mark_none]
        refine wpAny_mono (in2_walk (elt := elt) (x := x) (px := px) (iter := iter) (ct := ct) (y := y) (py := py) (iter2 := iter2) (scope := scope) (pos := pos) (f := f a) (bs := bs) (m := fun z => if z = x then some (.int a t) else m₂ z) (s := { s₁ with heap := h₅, toks := tk₅ }) (cenv := compEnvC scope cl H2.objs.size env) H.h htx hits hky hpc hDC (hn₄.keeps hk₅) (hD₄.at fun o e => hk₅ _ o e) hys hsz ?_) (fun it s₆ h₆ => ?_) fun _ _ e => e
        · intro b u s₇ m₇ E' hbm hn₇ hmy hmz hk₇
          have keep₇ : ∀ b o, s₁.heap.get? b = some o → s₇.heap.get? b = some o := fun b o e => hk₇ b o (lt1 e).1 (lt1 e).2.1 (keep₅ b o e)
          obtain ⟨F₇, N₇⟩ := inner hn₇ keep₇
          exact H.elt _ a t b u s₇.heap s₇.toks m₇ E' s₇.gens s₇.drawn s₇.os ham hpa hbm F₇ N₇ (by rw [hmz x hxy]; simp) hmy
        · refine codeAny_mono h₆ fun r s₈ h₈ => ?_
          obtain ⟨rfl, h₈, tk₈, m₈, ys₈, rfl, hn₈, hD₈, hys₈, hk₈⟩ := h₈
          refine ⟨rfl, ns.length + 1 - (i + 1), by omega, h₈, tk₈, m₈, ys₈, i + 1, rfl, ?_, hn₈, hD₈, ?_, hlt, rfl, fun b o e => hk₈ b o (lt1 e).1 (lt1 e).2.1 (keep₅ b o e)⟩
          · exact (hit₄.at fun o e => hk₅ _ o e).at fun o e => hk₈ _ o (Ne.symm hCI) (Ne.symm hDI) e
          · rw [step, hpa]; simpa using hys₈
    · have hin : i = ns.length := by omega
      subst hin
      refine wpAny_pyNext_list_end H.h hit hl' (by simp; omega) fun h₂ he₂ => ?_
      obtain ⟨n, hD'⟩ := hD.at fun o e => he₂ _ o hDI e
      have fresh : ∀ a, s₁.heap.objs.size ≤ a → s₁.heap.get? a = none := fun a ha => by
        cases e : s₁.heap.get? a with
        | none => rfl
        | some o => exact absurd (Heap.lt_size e) (Nat.not_lt.mpr ha)
      exact H.cont H1.objs.size H2.objs.size ys.toList n h₂ tk m₂ (fresh _ (by omega)) (fresh _ (by omega)) hDC (hn.at' fun o e => he₂ _ o hCI e) (by simpa using hD') (fun b o e => he₂ _ o (lt1 e).2.2 (hk b o e)) (by simpa using hys)
  exact codeAny_compStart_list (loop _) (wpAny_pyIter_listiter hit₁ (loop _))
end
end Mine
namespace Mine
theorem allLt_ne {d x : Nat} : ∀ {own : List (Addr × Obj)}, AllLt d own → d ≤ x → ∀ p ∈ own, p.1 ≠ x
  | [], _, _, _, hp => nomatch hp
  | q :: r, h, hx, p, hp => by
    rcases List.mem_cons.mp hp with rfl | hp
    · exact Nat.ne_of_lt (Nat.lt_of_lt_of_le h.1 hx)
    · exact allLt_ne h.2 hx p hp
section
variable {prog : Program} {w : World} {A : Around} {E : Value → Shared → Prop} {s : Shared} {h₀ : Heap} {L : Addr} {m : Str → Option Value} {news : List (Addr × Obj)}
theorem Comp_eval {env : Env} {elt iter : PySem.Expr} {x : Str} {px : Pos} {ifs : List PySem.Expr} {scope : Scope} {cl : List (Str × Addr)} {pos : Pos} {Q : Value → Shared → Prop} (F : Fr h₀ L s.heap m)
    (hclos : closureFor scope env = pure cl) (hcell : ∀ y ∈ scope.names, y.2 ≠ .cell) (hkind : scope.kind = .function)
    (hnames : ∀ y ∈ scope.names, y.2 = .local → scope.names.lookup y.1 = some .local) (hx : scope.names.lookup x = some .local)
    (h : wpAny (model prog w) A (eval iter env) (CompAtU none E prog w A h₀ L env scope cl x ifs elt Q) E s)
    (hs : ∀ x, foldedSetIterable iter env x = pure x := by intro _; rfl) :
    wpAny (model prog w) A (eval (.ListComp elt [⟨.Name x px, iter, ifs, 0⟩] scope pos) env) Q E s := by
  rw [eval_ListComp]
  exact CompU_N F hclos hcell hkind hnames hx none h hs
theorem Comp_assign {env : Env} {elt iter : PySem.Expr} {x y : Str} {px py : Pos} {ifs : List PySem.Expr} {scope : Scope} {cl : List (Str × Addr)} {pos spos : Pos} {Q : Flow → Shared → Prop} (F : Fr h₀ L s.heap m)
    (hclos : closureFor scope env = pure cl) (hcell : ∀ y ∈ scope.names, y.2 ≠ .cell) (hkind : scope.kind = .function)
    (hnames : ∀ y ∈ scope.names, y.2 = .local → scope.names.lookup y.1 = some .local) (hx : scope.names.lookup x = some .local)
    (hsw : swapsWith (.ListComp elt [⟨.Name x px, iter, ifs, 0⟩] scope pos) (some (.Name y py)) spos.line env = pure true)
    (h : wpAny (model prog w) A (eval iter env) (CompAtU (some (assign (.Name y py) env)) E prog w A h₀ L env scope cl x ifs elt (fun _ s' => Q .next s')) E s)
    (hs : ∀ x, foldedSetIterable iter env x = pure x := by intro _; rfl) :
    wpAny (model prog w) A (exec (.Assign [.Name y py] (.ListComp elt [⟨.Name x px, iter, ifs, 0⟩] scope pos) spos) env) Q E s := by
  rw [exec_Assign_Name_used _ _ _ _ hsw]
  refine wpAny_bind (wpAny_standAt (wpAny_bind ?_))
  show wpAny _ A (do let _ ← comprehension (.ListComp elt [⟨.Name x px, iter, ifs, 0⟩] scope pos) scope env _ (newList []) false (eval iter env) (some (assign (.Name y py) env))) _ _ s
  refine wpAny_bind (wpAny_mono (CompU_N (Q := fun _ s' => Q .next s') F hclos hcell hkind hnames hx (some (assign (.Name y py) env)) h hs) (fun _ s' hq => wpAny_pure (wpAny_pure hq)) fun _ _ e => e)
theorem Comp2_eval {env : Env} {elt iter iter2 ct : PySem.Expr} {x y : Str} {px py : Pos} {scope : Scope} {cl : List (Str × Addr)} {pos : Pos} {Q : Value → Shared → Prop} (F : Fr h₀ L s.heap m)
    (hclos : closureFor scope env = pure cl) (hcell : ∀ y ∈ scope.names, y.2 ≠ .cell) (hkind : scope.kind = .function)
    (hnames : ∀ y ∈ scope.names, y.2 = .local → scope.names.lookup y.1 = some .local) (hx : scope.names.lookup x = some .local) (hy : scope.names.lookup y = some .local) (hxy : x ≠ y)
    (h : wpAny (model prog w) A (eval iter env) (Comp2AtU none E prog w A h₀ L env scope cl x ct y iter2 elt Q) E s)
    (hs : ∀ x, foldedSetIterable iter env x = pure x := by intro _; rfl) (hs2 : ∀ env x, foldedSetIterable iter2 env x = pure x := by intro _ _; rfl) :
    wpAny (model prog w) A (eval (.ListComp elt [⟨.Name x px, iter, [ct], 0⟩, ⟨.Name y py, iter2, [], 0⟩] scope pos) env) Q E s := by
  rw [eval_ListComp]
  exact Comp2U_N F hclos hcell hkind hnames hx hy hxy none h hs hs2
theorem Comp2_assign {env : Env} {elt iter iter2 ct : PySem.Expr} {x y z : Str} {px py pz : Pos} {scope : Scope} {cl : List (Str × Addr)} {pos spos : Pos} {Q : Flow → Shared → Prop} (F : Fr h₀ L s.heap m)
    (hclos : closureFor scope env = pure cl) (hcell : ∀ y ∈ scope.names, y.2 ≠ .cell) (hkind : scope.kind = .function)
    (hnames : ∀ y ∈ scope.names, y.2 = .local → scope.names.lookup y.1 = some .local) (hx : scope.names.lookup x = some .local) (hy : scope.names.lookup y = some .local) (hxy : x ≠ y)
    (hsw : swapsWith (.ListComp elt [⟨.Name x px, iter, [ct], 0⟩, ⟨.Name y py, iter2, [], 0⟩] scope pos) (some (.Name z pz)) spos.line env = pure true)
    (h : wpAny (model prog w) A (eval iter env) (Comp2AtU (some (assign (.Name z pz) env)) E prog w A h₀ L env scope cl x ct y iter2 elt (fun _ s' => Q .next s')) E s)
    (hs : ∀ x, foldedSetIterable iter env x = pure x := by intro _; rfl) (hs2 : ∀ env x, foldedSetIterable iter2 env x = pure x := by intro _ _; rfl) :
    wpAny (model prog w) A (exec (.Assign [.Name z pz] (.ListComp elt [⟨.Name x px, iter, [ct], 0⟩, ⟨.Name y py, iter2, [], 0⟩] scope pos) spos) env) Q E s := by
  rw [exec_Assign_Name_used _ _ _ _ hsw]
  refine wpAny_bind (wpAny_standAt (wpAny_bind ?_))
  show wpAny _ A (do let _ ← comprehension (LC2 elt x px iter ct y py iter2 scope pos) scope env _ (newList []) false (eval iter env) (some (assign (.Name z pz) env))) _ _ s
  refine wpAny_bind (wpAny_mono (Comp2U_N (Q := fun _ s' => Q .next s') F hclos hcell hkind hnames hx hy hxy (some (assign (.Name z pz) env)) h hs hs2) (fun _ s' hq => wpAny_pure (wpAny_pure hq)) fun _ _ e => e)
/-- [x for x in l if ct], l of ints -/
theorem comp_intsU (p : Int → Bool) {use : Option (Value → Sem Unit)} {env : Env} {scope : Scope} {cl : List (Str × Addr)} {x : Str} {ct : PySem.Expr} {pos : Pos} {Q : Value → Shared → Prop} {ax : Addr} {vs : List Value} {na : Nat} {ns : List Int}
    (F : Fr h₀ L s.heap m) (N : News h₀ L s.heap news) (hm : (ax, listOf (List.toArray vs) na) ∈ news) (hi : IntsAre vs ns) (hz : vs.length ≤ 1000) (hh : A.handled = none)
    (hk : scope.kind = .function) (hx : ∀ C, (compEnvC scope cl C env).kindOf x = some .local) (hd : (x == ("__debug__" : Str)) = false)
    (fin : CompFin prog w A E h₀ L use Q s m news (fun ys => IntsAre ys (ns.filter p)))
    (test : ∀ C a t h tk m₃ E' g d o, a ∈ ns → Fr h₀ C h m₃ → News h₀ C h news → m₃ x = some (.int a t) → wpAny (model prog w) A (isTrue ct (compEnvC scope cl C env) (eval ct (compEnvC scope cl C env))) (fun ok s₄ => ok = p a ∧ Keeps { heap := h, toks := tk, gens := g, drawn := d, os := o } s₄) E' { heap := h, toks := tk, gens := g, drawn := d, os := o }) :
    CompAtU use E prog w A h₀ L env scope cl x [ct] (.Name x pos) Q (.ref ax) s := by
  refine ⟨ax, vs, m, news, pvOf p, fun v y => y = v, rfl, F, N, ⟨_, (N _ hm).1, rfl, na, rfl⟩, by rw [sizeLine_eq]; omega, hh, quietT_one ?_, ?_, ?_⟩
  · intro C v h tk m₃ E' g d o hv F₃ N₃ hm₃
    obtain ⟨a, t, rfl, ha⟩ := ints_get hi v hv
    exact test C a t h tk m₃ E' g d o ha F₃ N₃ hm₃
  · intro C v h tk m₃ E' g d o hv _ F₃ N₃ hm₃
    exact name_comp (s := { heap := h, toks := tk, gens := g, drawn := d, os := o }) F₃ hm₃ ⟨rfl, ⟨_, _, rfl, fun _ _ e => e⟩⟩ hk (hx C) hd
  · intro D C ys n h' tk m'' a1 a2 a3 a4 a5 a6 hP
    exact fin D C ys n h' tk m'' a1 a2 a3 a4 a5 a6 (paired_filter (fun _ _ => rfl) hi hP)
/-- [elt for x in l], l of ints, elt an int -/
theorem comp_mapU (f : Int → Int) {use : Option (Value → Sem Unit)} {env : Env} {scope : Scope} {cl : List (Str × Addr)} {x : Str} {elt : PySem.Expr} {Q : Value → Shared → Prop} {ax : Addr} {vs : List Value} {na : Nat} {ns : List Int}
    (F : Fr h₀ L s.heap m) (N : News h₀ L s.heap news) (hm : (ax, listOf (List.toArray vs) na) ∈ news) (hi : IntsAre vs ns) (hz : vs.length ≤ 1000) (hh : A.handled = none)
    (fin : CompFin prog w A E h₀ L use Q s m news (fun ys => IntsAre ys (ns.map f)))
    (el : ∀ C a t h tk m₃ E' g d o, a ∈ ns → Fr h₀ C h m₃ → News h₀ C h news → m₃ x = some (.int a t) → wpAny (model prog w) A (eval elt (compEnvC scope cl C env)) (fun y s₄ => (∃ u, y = .int (f a) u) ∧ Keeps { heap := h, toks := tk, gens := g, drawn := d, os := o } s₄) E' { heap := h, toks := tk, gens := g, drawn := d, os := o }) :
    CompAtU use E prog w A h₀ L env scope cl x [] elt Q (.ref ax) s := by
  refine ⟨ax, vs, m, news, fun _ => true, fun v y => ∃ a t u, v = Value.int a t ∧ y = Value.int (f a) u, rfl, F, N, ⟨_, (N _ hm).1, rfl, na, rfl⟩, by rw [sizeLine_eq]; omega, hh, quietT_nil, ?_, ?_⟩
  · intro C v h tk m₃ E' g d o hv _ F₃ N₃ hm₃
    obtain ⟨a, t, rfl, ha⟩ := ints_get hi v hv
    exact wpAny_mono (el C a t h tk m₃ E' g d o ha F₃ N₃ hm₃) (fun y s₄ z => ⟨by obtain ⟨⟨u, e⟩, _⟩ := z; exact ⟨a, t, u, rfl, e⟩, z.2⟩) fun _ _ z => z
  · intro D C ys n h' tk m'' a1 a2 a3 a4 a5 a6 hP
    exact fin D C ys n h' tk m'' a1 a2 a3 a4 a5 a6 (paired_map hi hP)
end
end Mine
namespace Mine
section
variable {w : World} {A : Around} {E : Value → Shared → Prop} {s : Shared} {p : Program} {loose : List Str} {mg mb : Str → Option Value} {h₀ : Heap} {L : Addr} {m : Str → Option Value} {news own : List (Addr × Obj)}
/-- next(chain, default), in a frame that nothing stands around; the ledger has the iterator's object at its head -/
theorem pn2_N {I l : Addr} {oI : Obj} {items : Array Value} {fs : List (Int → Bool)} {v : Value} {env : Env} {i : Nat} {Q : Option Value → Shared → Prop} (hall : AllInt items) (F : Fr h₀ L s.heap m) (N : News h₀ L s.heap ((I, oI) :: news)) (hX₀ : (KF w).In h₀) (T₀ : TopRead p loose mg mb h₀)
    (hA : A.frames = some [env]) (hf : env.frame = some L) (hk : env.scope.kind ≠ .module) (hh : A.handled = none) (hd : A.depth + fs.length + 2 < recursionLimit)
    (hI : IsLI oI l i) (hl : s.heap.IsList l items) (hc : ChainIn ((I, oI) :: news) I fs v) (off : ∀ q ∈ news, q.1 ≠ I)
    (ok : ∀ j a t h' tk oI', i ≤ j → items[j]? = some (.int a t) → Passes fs a → (∀ k, i ≤ k → k < j → ¬ Passes fs (valAt items k)) → IsLI oI' l (j + 1) → Fr h₀ L h' m → News h₀ L h' ((I, oI') :: news) → Q (some (.int a t)) { s with heap := h', toks := tk })
    (stop : ∀ h' tk, (∀ k, i ≤ k → k < items.size → ¬ Passes fs (valAt items k)) → Fr h₀ L h' m → News h₀ L h' news → Q none { s with heap := h', toks := tk }) :
    wpAny (model PP w) A (pyNext v) Q E s := by
  have hmI := N _ List.mem_cons_self
  have hcA := hc.at fun q hq => (N q hq).1
  have hit := hI.at hmI.1
  have hLI : L ≠ I := Ne.symm hmI.2.1
  have hnotI : ∀ b o, h₀.get? b = some o → b ≠ I := by rintro b o e rfl; rw [hmI.2.2] at e; cases e
  refine pyNext_chain hall hX₀ T₀ hmI.2.2 F.keep hA (.cons (outer := []) hk hf F.ns (get_none_of_le (Nat.zero_le _)) trivial) hh hd hit hl hcA ?_ ?_
  · intro j a t h' tk h1 h2 h3 h4 h5 h6
    obtain ⟨oI', hoI', hc', hd'⟩ := h5
    refine ok j a t h' tk oI' h1 h2 h3 h4 ⟨hc', hd'⟩ ⟨F.ns.at' fun o e => h6 L o hLI e, fun b o e => h6 b o (hnotI b o e) (F.keep b o e), F.above⟩ fun q hq => ?_
    rcases List.mem_cons.mp hq with rfl | hq
    · exact ⟨hoI', hmI.2⟩
    · exact ⟨h6 _ _ (off q hq) (N q (List.mem_cons_of_mem _ hq)).1, (N q (List.mem_cons_of_mem _ hq)).2⟩
  · intro e h' tk h1 R
    refine stop h' tk h1 (Fr.raised F hf hmI.2.2 R) fun q hq => ?_
    have hq' := N q (List.mem_cons_of_mem _ hq)
    refine ⟨R.keeps ?_ (off q hq) hq'.1, hq'.2⟩
    simp only [framesOf, List.filterMap_cons, hf, List.filterMap_nil, List.mem_singleton]
    exact hq'.2.1
end
section canon
variable {h₀ h : Heap} {L : Addr} {news : List (Addr × Obj)}
/-- the rest of the ledger, beside the addresses of a list -/
def beside (as : List Addr) (news : List (Addr × Obj)) : List (Addr × Obj) := news.filter fun q => decide (q.1 ∉ as)
theorem beside_off (as : List Addr) : OwnOff (beside as news) as := fun p hp b hb e => by
  have := (List.mem_filter.mp hp).2
  rw [decide_eq_true_eq] at this
  exact this (e ▸ hb)
theorem news_canon (N : News h₀ L h news) {hd : List (Addr × Obj)} (hs : ∀ q ∈ hd, q ∈ news) : ∀ q ∈ news, q ∈ hd ++ beside (hd.map (·.1)) news := fun q hq => by
  by_cases e : q.1 ∈ hd.map (·.1)
  · obtain ⟨q', hq', e'⟩ := List.mem_map.mp e
    have h1 := (N q hq).1
    have h2 := (N q' (hs q' hq')).1
    rw [e'] at h2
    rw [h1] at h2
    have : q = q' := by
      obtain ⟨a, o⟩ := q; obtain ⟨a', o'⟩ := q'
      simp only at e' h2 h1
      cases h2; subst e'; rfl
    rw [this]; exact List.mem_append_left _ hq'
  · exact List.mem_append_right _ (List.mem_filter.mpr ⟨hq, by rw [decide_eq_true_eq]; exact e⟩)
theorem news_back (N : News h₀ L h news) {hd : List (Addr × Obj)} (hs : ∀ q ∈ hd, q ∈ news) : News h₀ L h (hd ++ beside (hd.map (·.1)) news) := fun q hq =>
  (List.mem_append.mp hq).elim (fun h => N q (hs q h)) fun h => N q (List.mem_filter.mp h).1
end canon
section
variable {w : World} {A : Around} {E : Value → Shared → Prop} {s : Shared} {p : Program} {loose : List Str} {mg mb : Str → Option Value} {h₀ : Heap} {L : Addr} {m : Str → Option Value} {news own : List (Addr × Obj)}
theorem allInt_of {us : List Value} {ns : List Int} (h : IntsAre us ns) : AllInt us.toArray := fun j v hv => by
  obtain ⟨t, e⟩ := IntsAre.int_at h j v (by simpa using hv)
  exact ⟨_, t, e⟩
theorem valAt_of {us : List Value} {ns : List Int} (h : IntsAre us ns) {j : Nat} (hj : j < ns.length) : valAt us.toArray j = ns[j] := by
  obtain ⟨t, ht⟩ := h.get j ns[j] (by simp [hj])
  unfold valAt
  simp [ht]

/-- next(left, 0) in the law's frame: the ledger comes back in order -/
theorem law_pn {I R : Addr} {oI : Obj} {us : List Value} {rn : Nat} {ns : List Int} {fs : List (Int → Bool)} {v : Value} {env : Env} {i : Nat} {hd : List (Addr × Obj)} {Q : Option Value → Shared → Prop} (F : Fr h₀ L s.heap m) (N : News h₀ L s.heap news) (hX₀ : (KF w).In h₀) (T₀ : TopRead p loose mg mb h₀)
    (hA : A.frames = some [env]) (hf : env.frame = some L) (hk : env.scope.kind ≠ .module) (hh : A.handled = none) (hdp : A.depth + fs.length + 2 < recursionLimit)
    (hmI : (I, oI) ∈ news) (hI : IsLI oI R i) (hmR : (R, listOf us.toArray rn) ∈ news) (hi : IntsAre us ns) (hc : ChainIn news I fs v) (hs : ∀ q ∈ hd, q ∈ news) (hne : ∀ q ∈ hd, q.1 ≠ I)
    (ok : ∀ (j : Nat) (a : Int) (t : Tok) (h' : Heap) (tk : Nat) (oI' : Obj) (own : List (Addr × Obj)), i ≤ j → ns[j]? = some a → Passes fs a → (∀ k x, i ≤ k → k < j → ns[k]? = some x → ¬ Passes fs x) → IsLI oI' R (j + 1) → OwnOff own (I :: hd.map (·.1)) → Fr h₀ L h' m → News h₀ L h' ((I, oI') :: (hd ++ own)) →
      ChainIn ((I, oI') :: (hd ++ own)) I fs v → Q (some (.int a t)) { s with heap := h', toks := tk })
    (stop : ∀ (h' : Heap) (tk : Nat) (own : List (Addr × Obj)), (∀ k x, i ≤ k → ns[k]? = some x → ¬ Passes fs x) → OwnOff own (hd.map (·.1)) → Fr h₀ L h' m → News h₀ L h' (hd ++ own) → Q none { s with heap := h', toks := tk }) :
    wpAny (model PP w) A (pyNext v) Q E s := by
  have hlen := hi.length
  have hsI : ∀ q ∈ (I, oI) :: hd, q ∈ news := fun q hq => (List.mem_cons.mp hq).elim (fun e => e ▸ hmI) (hs q)
  have NB := news_back N hsI
  have NC := news_canon N hsI
  have offB : OwnOff (beside (((I, oI) :: hd).map (·.1)) news) (I :: hd.map (·.1)) := beside_off _
  generalize beside (((I, oI) :: hd).map (·.1)) news = ob at NB NC offB
  have offI : ∀ q ∈ hd ++ ob, q.1 ≠ I := fun q hq => (List.mem_append.mp hq).elim (hne q) fun h => offB q h I List.mem_cons_self
  refine pn2_N (allInt_of hi) F (news := hd ++ ob) NB hX₀ T₀ hA hf hk hh hdp hI ⟨_, (N _ hmR).1, rfl, rn, rfl⟩ (hc.mono NC) offI ?_ ?_
  · intro j a t h' tk oI' h1 h2 h3 h4 h5 F' N'
    have hj : ns[j]? = some a := by
      have hlt : j < us.length := by have := (Array.getElem?_eq_some_iff.mp h2).1; simpa using this
      obtain ⟨t', ht⟩ := hi.get j (ns[j]'(by omega)) (by simp [show j < ns.length from by omega])
      rw [List.getElem?_toArray, ht] at h2
      have : ns[j]'(by omega) = a := by injection h2 with h2; injection h2
      rw [List.getElem?_eq_getElem (by omega), this]
    refine ok j a t h' tk oI' ob h1 hj h3 (fun k x hk1 hk2 hkx => ?_) h5 offB F' N' ?_
    · have hlt : k < ns.length := by
        rcases Nat.lt_or_ge k ns.length with q | q
        · exact q
        · rw [List.getElem?_eq_none q] at hkx; cases hkx
      have := h4 k hk1 hk2
      rw [valAt_of hi hlt] at this
      rw [List.getElem?_eq_getElem hlt] at hkx; cases hkx
      exact this
    · -- the chain stands as it stood: none of its objects is the iterator
      have move : ∀ q ∈ (I, oI) :: (hd ++ ob), q.1 ≠ I → q ∈ (I, oI') :: (hd ++ ob) := fun q hq hqI => (List.mem_cons.mp hq).elim (fun e => absurd (by rw [e]) hqI) (List.mem_cons_of_mem _)
      have go : ∀ (fs : List (Int → Bool)) (v : Value), ChainIn ((I, oI) :: (hd ++ ob)) I fs v → ChainIn ((I, oI') :: (hd ++ ob)) I fs v := by
        intro fs
        induction fs with
        | nil => intro v e; exact e
        | cons f r ih =>
          rintro v ⟨x, dx, b, S, so, it, e, h1, h2, h3, h4, h5', h6⟩
          have ne : ∀ {a : Addr} {o : Obj}, (a, o) ∈ (I, oI) :: (hd ++ ob) → o.cls ≠ .type "list_iterator" → a ≠ I := by
            rintro a o hm hc rfl
            have e1 := (NB _ hm).1
            have e2 := (NB (a, oI) List.mem_cons_self).1
            rw [e1] at e2; cases e2
            exact hc hI.1
          obtain ⟨es, ep, tt, rfl⟩ := h5'.shape
          exact ⟨x, dx, b, S, _, it, e, move _ h1 (ne h1 (by simp)), move _ h2 (ne h2 (by simp)), move _ h3 (ne h3 (by simp)), move _ h4 (ne h4 (by simp)), h5', ih _ h6⟩
      exact go fs v (hc.mono NC)
  · intro h' tk h1 F' N'
    refine stop h' tk ob (fun k x hk hkx => ?_) (fun q hq b hb => offB q hq b (List.mem_cons_of_mem _ hb)) F' N'
    have hlt : k < ns.length := by
      rcases Nat.lt_or_ge k ns.length with q | q
      · exact q
      · rw [List.getElem?_eq_none q] at hkx; cases hkx
    have := h1 k hk (by simp; omega)
    rw [valAt_of hi hlt] at this
    rw [List.getElem?_eq_getElem hlt] at hkx; cases hkx
    exact this
end
end Mine
namespace Mine
def Halt (P : Prop) : Prop := P
def HaltQ (P : Prop) : Prop := P
theorem haltI {P : Prop} (h : Halt P) : P := h
theorem cut_nn (n : Nat) : 0 ≤ (2 * (n : Int) + 2).fdiv 3 := Int.fdiv_nonneg (by omega) (by omega)
/-- not among the barred -/
def np (bs : List Int) (n : Int) : Bool := !(bs.any (· == n))
def gt1 (n : Int) : Bool := decide (1 < n)
def nxt (bs l : List Int) : List Int := ((l.filter (np bs)).filter gt1).flatMap fun a => [2, 3].map fun b => a.fdiv b
def lev (bs r0 : List Int) : Nat → List Int
  | 0 => r0
  | i + 1 => nxt bs (lev bs r0 i)
def whole (bs r0 : List Int) : Nat → List Int
  | 0 => []
  | i + 1 => whole bs r0 i ++ lev bs r0 i
inductive JW (bs r0 : List Int) (TO WH cb B RW BA : Addr) (ocb oB oRW oBA : Obj) : Nat → (Str → Option Value) → List (Addr × Obj) → Prop
  | mk {i k : Nat} {m : Str → Option Value} {lvs ts wvs : List Value} {lvn tn wn : Nat} {LV : Addr} {own : List (Addr × Obj)} : k = 5 - i → i ≤ 4 → m "level" = some (.ref LV) → m "told" = some (.ref TO) → m "whole" = some (.ref WH) → OwnOff own [TO, WH, cb, B, RW, BA] →
      (@Ne Nat TO LV ∧ @Ne Nat WH LV ∧ @Ne Nat cb LV ∧ @Ne Nat B LV ∧ @Ne Nat RW LV ∧ @Ne Nat BA LV) → IntsAre lvs (lev bs r0 i) → IntsAre ts ((whole bs r0 i).filter (np bs)) → IntsAre wvs (whole bs r0 i) →
      JW bs r0 TO WH cb B RW BA ocb oB oRW oBA k m ((LV, listOf (List.toArray lvs) lvn) :: (TO, listOf (List.toArray ts) tn) :: (WH, listOf (List.toArray wvs) wn) :: (cb, ocb) :: (B, oB) :: (RW, oRW) :: (BA, oBA) :: own)
section
variable {prog : Program} {w : World} {A : Around} {E : Value → Shared → Prop} {s : Shared} {h₀ : Heap} {L : Addr} {m : Str → Option Value} {news own : List (Addr × Obj)}
theorem law2_walk {env : Env} {test : PySem.Expr} {body : List Stmt} {pos : Pos} {Q : Flow → Shared → Prop} {bs r0 : List Int} {TO WH cb B RW BA : Addr} {ocb oB oRW oBA : Obj} {n : Nat}
    (F : Fr h₀ L s.heap m) (N : News h₀ L s.heap news) (hj : JW bs r0 TO WH cb B RW BA ocb oB oRW oBA n m news)
    (turn : ∀ (i : Nat) (m : Str → Option Value) (h : Heap) (tk : Nat) (lvs ts wvs : List Value) (lvn tn wn : Nat) (LV : Addr) (own : List (Addr × Obj)), i ≤ 4 → m "level" = some (.ref LV) → m "told" = some (.ref TO) → m "whole" = some (.ref WH) → OwnOff own [TO, WH, cb, B, RW, BA] →
      (@Ne Nat TO LV ∧ @Ne Nat WH LV ∧ @Ne Nat cb LV ∧ @Ne Nat B LV ∧ @Ne Nat RW LV ∧ @Ne Nat BA LV) → IntsAre lvs (lev bs r0 i) → IntsAre ts ((whole bs r0 i).filter (np bs)) → IntsAre wvs (whole bs r0 i) → Fr h₀ L h m →
      News h₀ L h ((LV, listOf (List.toArray lvs) lvn) :: (TO, listOf (List.toArray ts) tn) :: (WH, listOf (List.toArray wvs) wn) :: (cb, ocb) :: (B, oB) :: (RW, oRW) :: (BA, oBA) :: own) →
      wpAny (model prog w) A (isTrue test env (eval test env)) (fun b s₂ => if b then wpAny (model prog w) A (execs body env) (FPost h₀ L (JW bs r0 TO WH cb B RW BA ocb oB oRW oBA) (5 - i) s Q) E s₂ else Q .next s₂) E { s with heap := h, toks := tk })
    (hE : PassesOwn (model prog w) A env E := by passes_own) : wpAny (model prog w) A (exec (.While test body [] pos) env) Q E s := by
  refine wpAny_While (codeAny_whileLoop (fun k s' => ∃ m' news' h' tk', s' = { s with heap := h', toks := tk' } ∧ Fr h₀ L h' m' ∧ News h₀ L h' news' ∧ JW bs r0 TO WH cb B RW BA ocb oB oRW oBA k m' news') ?_ n ⟨m, news, s.heap, s.toks, rfl, F, N, hj⟩)
  rintro k s' ⟨m', news', h', tk', rfl, F', N', hj'⟩
  have ht : wpAny (model prog w) A (isTrue test env (eval test env)) (fun b s₂ => if b then wpAny (model prog w) A (execs body env) (FPost h₀ L (JW bs r0 TO WH cb B RW BA ocb oB oRW oBA) k s Q) E s₂ else Q .next s₂) E { s with heap := h', toks := tk' } := by
    cases hj' with
    | mk a1 a2 a3 a4 a5 a6 a7 a8 a9 a10 => subst a1; exact turn _ m' h' tk' _ _ _ _ _ _ _ _ a2 a3 a4 a5 a6 a7 a8 a9 a10 F' N'
  refine wpAny_passesOwn hE (wpAny_mono ht (fun b s₂ hb => ?_) fun _ _ z => z)
  cases b with
  | false =>
    rw [if_neg Bool.false_ne_true] at hb ⊢
    exact wpAny_execs_nil hb
  | true =>
    rw [if_pos rfl] at hb ⊢
    refine wpAny_passesOwn hE (wpAny_mono hb (fun f s₃ hf => ?_) fun _ _ z => z)
    have fin : FEnd h₀ L (JW bs r0 TO WH cb B RW BA ocb oB oRW oBA) k s s₃ → ∃ m, m < k ∧ ∃ m' news' h' tk', s₃ = { s with heap := h', toks := tk' } ∧ Fr h₀ L h' m' ∧ News h₀ L h' news' ∧ JW bs r0 TO WH cb B RW BA ocb oB oRW oBA m m' news' := by
      rintro ⟨n', m', news', h', tk', a, b, c, d, e⟩
      exact ⟨n', a, m', news', h', tk', b, c, d, e⟩
    cases f with
    | next => exact fin hf
    | cont => exact fin hf
    | brk => exact hf
    | ret v => exact hf
theorem law2_enter {env : Env} {test : PySem.Expr} {body : List Stmt} {pos : Pos} {Q : Flow → Shared → Prop} {bs r0 : List Int} {TO WH cb B RW BA LV : Addr} {ocb oB oRW oBA : Obj} {lvs : List Value} {lvn : Nat} {x1 : Addr × Obj}
    (F : Fr h₀ L s.heap m) (N : News h₀ L s.heap ((WH, listOf #[] 0) :: (TO, listOf #[] 0) :: (cb, ocb) :: (B, oB) :: (LV, listOf (List.toArray lvs) lvn) :: (BA, oBA) :: x1 :: (RW, oRW) :: own))
    (m1 : m "level" = some (.ref LV)) (m2 : m "told" = some (.ref TO)) (m3 : m "whole" = some (.ref WH)) (hr : IntsAre lvs r0) (hoff : OwnOff (x1 :: own) [TO, WH, cb, B, RW, BA]) (hne : @Ne Nat TO LV ∧ @Ne Nat WH LV ∧ @Ne Nat cb LV ∧ @Ne Nat B LV ∧ @Ne Nat RW LV ∧ @Ne Nat BA LV)
    (turn : ∀ (i : Nat) (m : Str → Option Value) (h : Heap) (tk : Nat) (lvs ts wvs : List Value) (lvn tn wn : Nat) (LV : Addr) (own : List (Addr × Obj)), i ≤ 4 → m "level" = some (.ref LV) → m "told" = some (.ref TO) → m "whole" = some (.ref WH) → OwnOff own [TO, WH, cb, B, RW, BA] →
      (@Ne Nat TO LV ∧ @Ne Nat WH LV ∧ @Ne Nat cb LV ∧ @Ne Nat B LV ∧ @Ne Nat RW LV ∧ @Ne Nat BA LV) → IntsAre lvs (lev bs r0 i) → IntsAre ts ((whole bs r0 i).filter (np bs)) → IntsAre wvs (whole bs r0 i) → Fr h₀ L h m →
      News h₀ L h ((LV, listOf (List.toArray lvs) lvn) :: (TO, listOf (List.toArray ts) tn) :: (WH, listOf (List.toArray wvs) wn) :: (cb, ocb) :: (B, oB) :: (RW, oRW) :: (BA, oBA) :: own) →
      wpAny (model prog w) A (isTrue test env (eval test env)) (fun b s₂ => if b then wpAny (model prog w) A (execs body env) (FPost h₀ L (JW bs r0 TO WH cb B RW BA ocb oB oRW oBA) (5 - i) s Q) E s₂ else Q .next s₂) E { s with heap := h, toks := tk })
    (hE : PassesOwn (model prog w) A env E := by passes_own) : wpAny (model prog w) A (exec (.While test body [] pos) env) Q E s := by
  refine law2_walk F (news := (LV, listOf (List.toArray lvs) lvn) :: (TO, listOf (List.toArray []) 0) :: (WH, listOf (List.toArray []) 0) :: (cb, ocb) :: (B, oB) :: (RW, oRW) :: (BA, oBA) :: x1 :: own) (fun p hp => N p ?_) (.mk rfl (Nat.zero_le _) m1 m2 m3 hoff hne hr .nil .nil) turn hE
  simp only [List.mem_cons] at hp ⊢
  rcases hp with h | h | h | h | h | h | h | h | h
  · exact .inr (.inr (.inr (.inr (.inl h))))
  · exact .inr (.inl h)
  · exact .inl h
  · exact .inr (.inr (.inl h))
  · exact .inr (.inr (.inr (.inl h)))
  · exact .inr (.inr (.inr (.inr (.inr (.inr (.inr (.inl h)))))))
  · exact .inr (.inr (.inr (.inr (.inr (.inl h)))))
  · exact .inr (.inr (.inr (.inr (.inr (.inr (.inl h))))))
  · exact .inr (.inr (.inr (.inr (.inr (.inr (.inr (.inr h)))))))
end
/-- numbers from 0 to 11 -/
def Low (l : List Int) : Prop := ∀ x ∈ l, 0 ≤ x ∧ x ≤ 11
theorem low_map (l : List Int) : Low (l.map fun x => (if x < 0 then -x else x).fmod 12) := by
  intro x hx
  obtain ⟨k, _, rfl⟩ := List.mem_map.mp hx
  have h1 := Int.fmod_nonneg_of_pos (if k < 0 then -k else k) (by decide : (0 : Int) < 12)
  have h2 := Int.fmod_lt_of_pos (if k < 0 then -k else k) (by decide : (0 : Int) < 12)
  omega
theorem row_abs {vs : List Value} {ws : List Int} {c : Nat} (h : IntsAre vs ([11] ++ (ws.take c).map fun x => (if x < 0 then -x else x).fmod 12)) (hl : ¬ ((63 : Nat) : Int) < ((ws.length : Nat) : Int)) : ∃ r0, IntsAre vs r0 ∧ Low r0 ∧ r0.length ≤ 64 := by
  refine ⟨_, h, ?_, ?_⟩
  · intro x hx
    rcases List.mem_append.mp hx with hx | hx
    · rcases List.mem_cons.mp hx with rfl | hx
      · omega
      · cases hx
    · exact low_map _ x hx
  · rw [List.length_append, List.length_map, List.length_take, List.length_singleton]; omega
theorem bar_abs {vs : List Value} {ws : List Int} {c : Nat} (h : IntsAre vs ((ws.drop c).map fun x => (if x < 0 then -x else x).fmod 12)) (hl : ¬ ((63 : Nat) : Int) < ((ws.length : Nat) : Int)) : ∃ bs, IntsAre vs bs ∧ Low bs ∧ bs.length ≤ 63 :=
  ⟨_, h, low_map _, by rw [List.length_map, List.length_drop]; omega⟩
end Mine
namespace Mine
def Upto (c : Int) (l : List Int) : Prop := ∀ x ∈ l, 0 ≤ x ∧ x ≤ c
theorem kid_bound {a b c : Int} (h : 1 < a) (hc : a ≤ c) (hb : b ∈ [2, 3]) : 0 ≤ a.fdiv b ∧ a.fdiv b ≤ c / 2 := by
  rw [Int.fdiv_eq_ediv_of_nonneg _ (by simp at hb; omega)]
  simp only [List.mem_cons, List.not_mem_nil, or_false] at hb
  rcases hb with rfl | rfl <;> omega
theorem mem_nxt {bs l : List Int} {x : Int} (h : x ∈ nxt bs l) : ∃ a ∈ l, np bs a = true ∧ 1 < a ∧ ∃ b ∈ [(2 : Int), 3], x = a.fdiv b := by
  obtain ⟨a, ha, hx⟩ := List.mem_flatMap.mp h
  obtain ⟨ha1, ha2⟩ := List.mem_filter.mp ha
  obtain ⟨ha3, ha4⟩ := List.mem_filter.mp ha1
  obtain ⟨b, hb, rfl⟩ := List.mem_map.mp hx
  exact ⟨a, ha3, ha4, of_decide_eq_true ha2, b, hb, rfl⟩
theorem upto_nxt {bs l : List Int} {c : Int} (h : Upto c l) : Upto (c / 2) (nxt bs l) := by
  intro x hx
  obtain ⟨a, ha, _, h1, b, hb, rfl⟩ := mem_nxt hx
  exact kid_bound h1 (h a ha).2 hb
theorem nxt_one {bs l : List Int} (h : Upto 1 l) : nxt bs l = [] := by
  apply List.eq_nil_iff_forall_not_mem.mpr
  intro x hx
  obtain ⟨a, ha, _, h1, _⟩ := mem_nxt hx
  have := (h a ha).2
  omega
theorem lev_nil {bs r0 : List Int} (h : Low r0) : lev bs r0 4 = [] := by
  have h0 : Upto 11 (lev bs r0 0) := h
  have h1 : Upto 5 (lev bs r0 1) := upto_nxt h0
  have h2 : Upto 2 (lev bs r0 2) := upto_nxt h1
  have h3 : Upto 1 (lev bs r0 3) := upto_nxt h2
  exact nxt_one h3
theorem lev_ne {bs r0 : List Int} {i : Nat} (h : Low r0) (hi : i ≤ 4) (hd : decide (lev bs r0 i = []) = false) : i ≤ 3 := by
  rcases Nat.lt_or_ge i 4 with h' | h'
  · omega
  · have : i = 4 := by omega
    subst this
    exact absurd (lev_nil h) (of_decide_eq_false hd)
theorem nxt_len (bs l : List Int) : (nxt bs l).length ≤ 2 * l.length := by
  unfold nxt
  have e : ∀ l : List Int, (l.flatMap fun a => [2, 3].map fun b => a.fdiv b).length = 2 * l.length := by
    intro l
    induction l with
    | nil => rfl
    | cons a r ih => rw [List.flatMap_cons, List.length_append, ih, List.length_cons]; simp; omega
  rw [e]
  have h1 := List.length_filter_le gt1 (l.filter (np bs))
  have h2 := List.length_filter_le (np bs) l
  omega
theorem lev_len {bs r0 : List Int} : ∀ i, (lev bs r0 i).length ≤ r0.length * 2 ^ i
  | 0 => by simp [lev]
  | i + 1 => by
    have h1 := lev_len (bs := bs) (r0 := r0) i
    have h2 := nxt_len bs (lev bs r0 i)
    show (nxt bs (lev bs r0 i)).length ≤ _
    rw [Nat.pow_succ, ← Nat.mul_assoc]
    omega
theorem whole_len {bs r0 : List Int} : ∀ i, (whole bs r0 i).length + r0.length ≤ r0.length * 2 ^ i
  | 0 => by simp [whole]
  | i + 1 => by
    have h1 := whole_len (bs := bs) (r0 := r0) i
    have h2 := lev_len (bs := bs) (r0 := r0) i
    rw [whole, List.length_append, Nat.pow_succ, ← Nat.mul_assoc]
    omega
theorem pow_le4 {i : Nat} (h : i ≤ 4) : 2 ^ i ≤ 16 := Nat.pow_le_pow_right (by decide) h
theorem pow_le3 {i : Nat} (h : i ≤ 3) : 2 ^ i ≤ 8 := Nat.pow_le_pow_right (by decide) h
theorem lev_len4 {bs r0 : List Int} {i : Nat} (h : i ≤ 4) (hr : r0.length ≤ 64) : (lev bs r0 i).length ≤ 1024 := by
  have h1 := lev_len (bs := bs) (r0 := r0) i
  have := Nat.mul_le_mul hr (pow_le4 h)
  omega
theorem lev_len3 {bs r0 : List Int} {i : Nat} (h : i ≤ 3) (hr : r0.length ≤ 64) : (lev bs r0 i).length ≤ 512 := by
  have h1 := lev_len (bs := bs) (r0 := r0) i
  have := Nat.mul_le_mul hr (pow_le3 h)
  omega
theorem whole_len4 {bs r0 : List Int} {i : Nat} (h : i ≤ 4) (hr : r0.length ≤ 64) : (whole bs r0 i).length ≤ 1024 := by
  have h1 := whole_len (bs := bs) (r0 := r0) i
  have := Nat.mul_le_mul hr (pow_le4 h)
  omega
theorem ints_app {a : List Value} {x : List Int} (h : IntsAre a x) {b : List Value} {y : List Int} (h2 : IntsAre b y) : IntsAre (a ++ b) (x ++ y) := by
  induction h with
  | nil => exact h2
  | cons _ _ _ ih => exact .cons _ _ ih
section
variable {M : Model} {A : Around} {E : Value → Shared → Prop} {s s0 : Shared} {h₀ : Heap} {L : Addr} {m : Str → Option Value} {news own : List (Addr × Obj)}
theorem newTuple_tup {vs : List Value} {bs : List Int} (hs : ∃ tk, s = { s0 with toks := tk }) (hi : IntsAre vs bs) (hz : vs.length ≤ 10) :
    wpAny M A (newTuple vs) (fun z s₄ => (∃ tx its, z = .ref tx ∧ s₄.heap.IsTuple tx its ∧ IntsAre its.toList bs) ∧ Keeps s0 s₄) E s := by
  obtain ⟨tk, rfl⟩ := hs
  refine wpAny_newObj_type ⟨⟨_, vs.toArray, rfl, ⟨_, Heap.get?_push_size _ rfl, rfl, _, rfl⟩, by simpa using hi⟩, ⟨_, _, rfl, fun _ _ e => Heap.get?_push_of_some _ e⟩⟩ (by show vs.toArray.size ≤ sizeLine; rw [List.size_toArray, sizeLine_eq]; omega)
theorem law2_turn_end {Q : Flow → Shared → Prop} {bs r0 : List Int} {TO WH cb B RW BA LV D PA n1 : Addr} {ocb oB oRW oBA b1 b2 b3 : Obj} {i : Nat} {ys ts wvs : List Value} {yn tn wn : Nat} {h' : Heap} {tk : Nat}
    (F : Fr h₀ L h' m) (N : News h₀ L h' ((D, listOf (List.toArray ys) yn) :: (PA, b1) :: (n1, b2) :: (LV, b3) :: (TO, listOf (List.toArray ts) tn) :: (WH, listOf (List.toArray wvs) wn) :: (cb, ocb) :: (B, oB) :: (RW, oRW) :: (BA, oBA) :: own))
    (hi : i ≤ 3) (m1 : m "level" = some (.ref D)) (m2 : m "told" = some (.ref TO)) (m3 : m "whole" = some (.ref WH)) (hoff : OwnOff own [TO, WH, cb, B, RW, BA])
    (hLV : @Ne Nat TO LV ∧ @Ne Nat WH LV ∧ @Ne Nat cb LV ∧ @Ne Nat B LV ∧ @Ne Nat RW LV ∧ @Ne Nat BA LV)
    (hPA : @Ne Nat n1 PA ∧ @Ne Nat LV PA ∧ @Ne Nat TO PA ∧ @Ne Nat WH PA ∧ @Ne Nat cb PA ∧ @Ne Nat B PA ∧ @Ne Nat RW PA ∧ @Ne Nat BA PA ∧ AllNe PA own)
    (hn1 : @LT.lt Nat _ LV n1 ∧ @LT.lt Nat _ TO n1 ∧ @LT.lt Nat _ WH n1 ∧ @LT.lt Nat _ cb n1 ∧ @LT.lt Nat _ B n1 ∧ @LT.lt Nat _ RW n1 ∧ @LT.lt Nat _ BA n1 ∧ AllLt n1 own)
    (hD : @Ne Nat PA D ∧ @Ne Nat n1 D ∧ @Ne Nat LV D ∧ @Ne Nat TO D ∧ @Ne Nat WH D ∧ @Ne Nat cb D ∧ @Ne Nat B D ∧ @Ne Nat RW D ∧ @Ne Nat BA D ∧ AllNe D own)
    (hy : IntsAre ys (lev bs r0 (i + 1))) (ht : IntsAre ts ((whole bs r0 (i + 1)).filter (np bs))) (hw : IntsAre wvs (whole bs r0 (i + 1))) :
    FPost h₀ L (JW bs r0 TO WH cb B RW BA ocb oB oRW oBA) (5 - i) s Q .next { s with heap := h', toks := tk } := by
  refine ⟨5 - (i + 1), m, (D, listOf (List.toArray ys) yn) :: (TO, listOf (List.toArray ts) tn) :: (WH, listOf (List.toArray wvs) wn) :: (cb, ocb) :: (B, oB) :: (RW, oRW) :: (BA, oBA) :: (PA, b1) :: (n1, b2) :: (LV, b3) :: own, h', tk, by omega, rfl, F, fun p hp => N p ?_, ?_⟩
  · simp only [List.mem_cons] at hp ⊢
    rcases hp with h | h | h | h | h | h | h | h | h | h | h
    · exact .inl h
    · exact .inr (.inr (.inr (.inr (.inl h))))
    · exact .inr (.inr (.inr (.inr (.inr (.inl h)))))
    · exact .inr (.inr (.inr (.inr (.inr (.inr (.inl h))))))
    · exact .inr (.inr (.inr (.inr (.inr (.inr (.inr (.inl h)))))))
    · exact .inr (.inr (.inr (.inr (.inr (.inr (.inr (.inr (.inl h))))))))
    · exact .inr (.inr (.inr (.inr (.inr (.inr (.inr (.inr (.inr (.inl h)))))))))
    · exact .inr (.inl h)
    · exact .inr (.inr (.inl h))
    · exact .inr (.inr (.inr (.inl h)))
    · exact .inr (.inr (.inr (.inr (.inr (.inr (.inr (.inr (.inr (.inr h)))))))))
  · refine .mk rfl (by omega) m1 m2 m3 ?_ ⟨hD.2.2.2.1, hD.2.2.2.2.1, hD.2.2.2.2.2.1, hD.2.2.2.2.2.2.1, hD.2.2.2.2.2.2.2.1, hD.2.2.2.2.2.2.2.2.1⟩ hy ht hw
    intro p hp b hb
    simp only [List.mem_cons, List.not_mem_nil, or_false] at hb
    rcases List.mem_cons.mp hp with rfl | hp
    · rcases hb with rfl | rfl | rfl | rfl | rfl | rfl
      · exact Ne.symm hPA.2.2.1
      · exact Ne.symm hPA.2.2.2.1
      · exact Ne.symm hPA.2.2.2.2.1
      · exact Ne.symm hPA.2.2.2.2.2.1
      · exact Ne.symm hPA.2.2.2.2.2.2.1
      · exact Ne.symm hPA.2.2.2.2.2.2.2.1
    rcases List.mem_cons.mp hp with rfl | hp
    · rcases hb with rfl | rfl | rfl | rfl | rfl | rfl
      · exact Nat.ne_of_gt hn1.2.1
      · exact Nat.ne_of_gt hn1.2.2.1
      · exact Nat.ne_of_gt hn1.2.2.2.1
      · exact Nat.ne_of_gt hn1.2.2.2.2.1
      · exact Nat.ne_of_gt hn1.2.2.2.2.2.1
      · exact Nat.ne_of_gt hn1.2.2.2.2.2.2.1
    rcases List.mem_cons.mp hp with rfl | hp
    · rcases hb with rfl | rfl | rfl | rfl | rfl | rfl
      · exact Ne.symm hLV.1
      · exact Ne.symm hLV.2.1
      · exact Ne.symm hLV.2.2.1
      · exact Ne.symm hLV.2.2.2.1
      · exact Ne.symm hLV.2.2.2.2.1
      · exact Ne.symm hLV.2.2.2.2.2
    · refine hoff p hp b ?_
      simp only [List.mem_cons, List.not_mem_nil, or_false]
      exact hb
end
end Mine
namespace Mine
abbrev hdF (TD RW BA x d b S DUE TO WH I : Addr) (so oDUE oTO oWH : Obj) (tds rvs avs : List Value) (tdn rn an : Nat) : List (Addr × Obj) :=
  [(TD, listOf (List.toArray tds) tdn), (RW, listOf (List.toArray rvs) rn), (BA, listOf (List.toArray avs) an), (x, ffObj d (.ref I) b), (d, dictOf [] 0), (b, boundHas S), (S, so), (DUE, oDUE), (TO, oTO), (WH, oWH)]
inductive JF (bs r0 : List Int) (TD RW BA x d b S DUE TO WH I : Addr) (so oDUE oTO oWH : Obj) : Nat → (Str → Option Value) → List (Addr × Obj) → Prop
  | mk {i k : Nat} {m : Str → Option Value} {tds rvs avs : List Value} {tdn rn an : Nat} {oI : Obj} {own : List (Addr × Obj)} {rs : List Int} : k = (whole bs r0 4).length - i → i ≤ rs.length → m "told" = some (.ref TD) → m "row" = some (.ref RW) → m "barred" = some (.ref BA) → m "due" = some (.ref DUE) →
      OwnOff own [I, TD, RW, BA, x, d, b, S, DUE, TO, WH] → IsLI oI RW i → IntsAre rvs rs → rs = r0 ++ nxt bs (rs.take i) → IntsAre tds ((rs.take i).filter (np bs)) → avs.length ≤ 64 + i → rs <+: whole bs r0 4 →
      JF bs r0 TD RW BA x d b S DUE TO WH I so oDUE oTO oWH k m ((I, oI) :: (hdF TD RW BA x d b S DUE TO WH I so oDUE oTO oWH tds rvs avs tdn rn an ++ own))
theorem whole_eq (bs r0 : List Int) : ∀ i, whole bs r0 (i + 1) = r0 ++ nxt bs (whole bs r0 i)
  | 0 => by simp [whole, lev, nxt]
  | i + 1 => by
    have ih := whole_eq bs r0 i
    have e : nxt bs (whole bs r0 i ++ lev bs r0 i) = nxt bs (whole bs r0 i) ++ nxt bs (lev bs r0 i) := by
      simp only [nxt, List.filter_append, List.flatMap_append]
    show whole bs r0 (i + 1) ++ nxt bs (lev bs r0 i) = r0 ++ nxt bs (whole bs r0 i ++ lev bs r0 i)
    rw [e, ih, List.append_assoc]
theorem nxt_app (bs a b : List Int) : nxt bs (a ++ b) = nxt bs a ++ nxt bs b := by simp only [nxt, List.filter_append, List.flatMap_append]
theorem whole4 {bs r0 : List Int} (h : Low r0) : whole bs r0 4 = r0 ++ nxt bs (whole bs r0 4) := by
  have e : whole bs r0 5 = whole bs r0 4 := by
    show whole bs r0 4 ++ lev bs r0 4 = _
    rw [lev_nil h, List.append_nil]
  rw [← whole_eq, e]
theorem nxt_low {bs l : List Int} (h : Low l) : Low (nxt bs l) := fun x hx => by
  have := upto_nxt (bs := bs) (c := 11) h x hx
  omega
theorem lev_low {bs r0 : List Int} (h : Low r0) : ∀ i, Low (lev bs r0 i)
  | 0 => h
  | i + 1 => nxt_low (lev_low h i)
theorem whole_low {bs r0 : List Int} (h : Low r0) : ∀ i, Low (whole bs r0 i)
  | 0 => fun x hx => nomatch hx
  | i + 1 => fun x hx => (List.mem_append.mp hx).elim (whole_low h i x) (lev_low h i x)
/-- the row at the end is the whole walk -/
theorem row_end {bs r0 rs : List Int} (h : Low r0) (hr : rs = r0 ++ nxt bs rs) (hp : rs <+: whole bs r0 4) : rs = whole bs r0 4 := by
  obtain ⟨t, ht⟩ := hp
  have h1 := whole4 (bs := bs) h
  rw [← ht, nxt_app, ← List.append_assoc, ← hr] at h1
  have h2 : t = nxt bs t := List.append_cancel_left h1
  have hl : Low t := fun x hx => whole_low (bs := bs) h 4 x (ht ▸ List.mem_append_right _ hx)
  have h3 : t = [] := by
    have e0 : Upto 11 t := hl
    have e1 : Upto 5 t := by rw [h2]; exact upto_nxt e0
    have e2 : Upto 2 t := by rw [h2]; exact upto_nxt e1
    have e3 : Upto 1 t := by rw [h2]; exact upto_nxt e2
    rw [h2]; exact nxt_one e3
  rw [← ht, h3, List.append_nil]
theorem nxt_prefix {bs a b : List Int} (h : a <+: b) : nxt bs a <+: nxt bs b := by
  obtain ⟨t, rfl⟩ := h
  rw [nxt_app]
  exact List.prefix_append _ _
/-- what comes out at j, and the row behind it -/
theorem take_pass {bs rs : List Int} {i j : Nat} {a : Int} (hij : i ≤ j) (hj : rs[j]? = some a) (hp : np bs a = true) (hno : ∀ k x, i ≤ k → k < j → rs[k]? = some x → np bs x = false) :
    (rs.take (j + 1)).filter (np bs) = (rs.take i).filter (np bs) ++ [a] := by
  have hjl : j < rs.length := (List.getElem?_eq_some_iff.mp hj).1
  have e1 : rs.take (j + 1) = rs.take i ++ ((rs.drop i).take (j - i) ++ [a]) := by
    rw [List.take_add_one, hj, Option.toList_some, ← List.append_assoc]
    congr 1
    rw [show j = i + (j - i) from by omega, List.take_add]
    congr 2
    omega
  rw [e1, List.filter_append, List.filter_append, List.filter_cons, hp]
  have e2 : ((rs.drop i).take (j - i)).filter (np bs) = [] := by
    rw [List.filter_eq_nil_iff]
    intro x hx
    obtain ⟨k, hk, e⟩ := List.mem_iff_getElem.mp hx
    have hk' : k < j - i := by rw [List.length_take] at hk; omega
    have hkl : k < rs.length - i := by rw [List.length_take, List.length_drop] at hk; omega
    rw [List.getElem_take, List.getElem_drop] at e
    have := hno (i + k) x (by omega) (by omega) (by rw [List.getElem?_eq_getElem (by omega), e])
    simp [this]
  rw [e2]
  simp
theorem drop_pass {bs rs : List Int} {i : Nat} (hno : ∀ k x, i ≤ k → rs[k]? = some x → np bs x = false) : rs.filter (np bs) = (rs.take i).filter (np bs) := by
  conv => lhs; rw [← List.take_append_drop i rs]
  rw [List.filter_append]
  have e2 : (rs.drop i).filter (np bs) = [] := by
    rw [List.filter_eq_nil_iff]
    intro x hx
    obtain ⟨k, hk, e⟩ := List.mem_iff_getElem.mp hx
    have hkl : k < rs.length - i := by rw [List.length_drop] at hk; omega
    rw [List.getElem_drop] at e
    have := hno (i + k) x (by omega) (by rw [List.getElem?_eq_getElem (by omega), e])
    simp [this]
  rw [e2, List.append_nil]
theorem nxt_of_filter {bs a b : List Int} (h : a.filter (np bs) = b.filter (np bs)) : nxt bs a = nxt bs b := by unfold nxt; rw [h]
theorem nxt_snoc (bs l : List Int) (a : Int) (hp : np bs a = true) : ((l.filter (np bs) ++ [a]).filter gt1).flatMap (fun a => [2, 3].map fun b => a.fdiv b) = nxt bs l ++ (if 1 < a then [a.fdiv 2, a.fdiv 3] else []) := by
  rw [List.filter_append, List.flatMap_append]
  congr 1
  by_cases h : 1 < a
  · simp [gt1, h]
  · simp [gt1, h]
/-- the new row -/
theorem row_step {bs r0 rs : List Int} {i j : Nat} {a : Int} (hl : Low r0) (hi : i ≤ rs.length) (hr : rs = r0 ++ nxt bs (rs.take i)) (hij : i ≤ j) (hj : rs[j]? = some a) (hp : np bs a = true) (hno : ∀ k x, i ≤ k → k < j → rs[k]? = some x → np bs x = false) (hpre : rs <+: whole bs r0 4) :
    let rs' := rs ++ (if 1 < a then [a.fdiv 2, a.fdiv 3] else [])
    j + 1 ≤ rs'.length ∧ rs' = r0 ++ nxt bs (rs'.take (j + 1)) ∧ (rs'.take (j + 1)).filter (np bs) = (rs.take i).filter (np bs) ++ [a] ∧ rs' <+: whole bs r0 4 ∧ j < (whole bs r0 4).length := by
  intro rs'
  have hjl : j < rs.length := (List.getElem?_eq_some_iff.mp hj).1
  have ht : rs'.take (j + 1) = rs.take (j + 1) := List.take_append_of_le_length (by omega)
  have hf := take_pass hij hj hp hno
  have hn : nxt bs (rs.take (j + 1)) = nxt bs (rs.take i) ++ (if 1 < a then [a.fdiv 2, a.fdiv 3] else []) := by
    rw [← nxt_snoc bs _ a hp, ← hf]
    rfl
  have hr' : rs' = r0 ++ nxt bs (rs.take (j + 1)) := by
    rw [hn, ← List.append_assoc, ← hr]
  refine ⟨by simp only [rs', List.length_append]; omega, by rw [ht]; exact hr', by rw [ht]; exact hf, ?_, ?_⟩
  · rw [hr', whole4 (bs := bs) hl]
    have : nxt bs (rs.take (j + 1)) <+: nxt bs (whole bs r0 4) := nxt_prefix ((List.take_prefix _ _).trans hpre)
    obtain ⟨t, ht⟩ := this
    exact ⟨t, by rw [List.append_assoc, ht]⟩
  · exact Nat.lt_of_lt_of_le hjl hpre.length_le
theorem lev_stay {bs r0 : List Int} {i : Nat} (h : lev bs r0 i = []) : ∀ n, lev bs r0 (i + n) = [] ∧ whole bs r0 (i + n) = whole bs r0 i
  | 0 => ⟨h, rfl⟩
  | n + 1 => by
    obtain ⟨h1, h2⟩ := lev_stay h n
    refine ⟨?_, ?_⟩
    · show nxt bs (lev bs r0 (i + n)) = []
      rw [h1]; rfl
    · show whole bs r0 (i + n) ++ lev bs r0 (i + n) = _
      rw [h1, h2, List.append_nil]
theorem whole_exit {bs r0 : List Int} {i : Nat} (hi : i ≤ 4) (h : decide (lev bs r0 i = []) = true) : whole bs r0 i = whole bs r0 4 := by
  have := (lev_stay (of_decide_eq_true h) (4 - i)).2
  rw [show i + (4 - i) = 4 from by omega] at this
  exact this.symm
end Mine
namespace Mine
section
variable {w : World} {A : Around} {E : Value → Shared → Prop} {s : Shared} {p : Program} {loose : List Str} {mg mb : Str → Option Value} {h₀ : Heap} {L : Addr} {m : Str → Option Value} {news own : List (Addr × Obj)}
theorem np_iff (bs : List Int) (a : Int) : np bs a = !(decide (a ∈ bs)) := by
  unfold np
  congr 1
  rw [Bool.eq_iff_iff, List.any_eq_true, decide_eq_true_iff]
  exact ⟨fun ⟨x, hx, e⟩ => beq_iff_eq.mp e ▸ hx, fun h => ⟨a, h, beq_iff_eq.mpr rfl⟩⟩
theorem pass_iff (bs : List Int) (a : Int) : Passes [fun k => decide (k ∈ bs)] a ↔ np bs a = true := by
  rw [np_iff]
  simp [Passes]
theorem law2_for {env : Env} {nm : Str} {body : List Stmt} {Q : Flow → Shared → Prop} {bs r0 : List Int} {TD RW BA x d b S DUE TO WH I : Addr} {oI so oDUE oTO oWH : Obj} {n1 lv cb cB : Addr × Obj} {rvs avs : List Value} {rn an : Nat}
    (F : Fr h₀ L s.heap m) (N : News h₀ L s.heap ((I, oI) :: (x, ffObj d (.ref I) b) :: (d, dictOf [] 0) :: (b, boundHas S) :: (S, so) :: (TD, listOf #[] 0) :: (DUE, oDUE) :: n1 :: lv :: (TO, oTO) :: (WH, oWH) :: cb :: cB :: (RW, listOf (List.toArray rvs) rn) :: (BA, listOf (List.toArray avs) an) :: own))
    (hX₀ : (KF w).In h₀) (T₀ : TopRead p loose mg mb h₀) (hA : A.frames = some [env]) (hf : env.frame = some L) (hk : env.scope.kind ≠ .module) (hh : A.handled = none) (hdp : A.depth + 8 < recursionLimit) (hu : A.units + 64 < cLine)
    (hI : IsLI oI RW 0) (hS : IsHas so (fun k => decide (k ∈ bs))) (hr : IntsAre rvs r0) (hrl : Low r0) (hrn : r0.length ≤ 64) (hav : avs.length ≤ 64)
    (m1 : m "told" = some (.ref TD)) (m2 : m "row" = some (.ref RW)) (m3 : m "barred" = some (.ref BA)) (m4 : m "due" = some (.ref DUE))
    (hne : TD ≠ I ∧ RW ≠ I ∧ BA ≠ I ∧ x ≠ I ∧ d ≠ I ∧ b ≠ I ∧ S ≠ I ∧ DUE ≠ I ∧ TO ≠ I ∧ WH ≠ I)
    (turn : ∀ (k : Nat) (a : Int) (t : Tok) (rs told : List Int) (tds rvs avs : List Value) (tdn rn an : Nat) (oI : Obj) (own : List (Addr × Obj)) (m : Str → Option Value) (h : Heap) (tk : Nat),
      m "told" = some (.ref TD) → m "row" = some (.ref RW) → m "barred" = some (.ref BA) → m "due" = some (.ref DUE) → OwnOff own [I, TD, RW, BA, x, d, b, S, DUE, TO, WH] → IntsAre rvs rs → IntsAre tds told → rvs.length ≤ 1024 → tds.length ≤ 1024 → avs.length ≤ 1100 →
      Fr h₀ L h m → News h₀ L h ((I, oI) :: (hdF TD RW BA x d b S DUE TO WH I so oDUE oTO oWH tds rvs avs tdn rn an ++ own)) →
      (∀ (m' : Str → Option Value) (tds' rvs' avs' : List Value) (tdn rn an : Nat) (h' : Heap) (tk' : Nat), m' "told" = some (.ref TD) → m' "row" = some (.ref RW) → m' "barred" = some (.ref BA) → m' "due" = some (.ref DUE) →
        IntsAre rvs' (rs ++ (if 1 < a then [a.fdiv 2, a.fdiv 3] else [])) → IntsAre tds' (told ++ [a]) → avs'.length ≤ avs.length + 1 → Fr h₀ L h' m' → News h₀ L h' ((I, oI) :: (hdF TD RW BA x d b S DUE TO WH I so oDUE oTO oWH tds' rvs' avs' tdn rn an ++ own)) →
        FPost h₀ L (JF bs r0 TD RW BA x d b S DUE TO WH I so oDUE oTO oWH) k s Q .next { s with heap := h', toks := tk' }) →
      wpAny (model PP w) A (storeName env nm (.int a t)) (fun _ s₃ => wpAny (model PP w) A (execs body env) (FPost h₀ L (JF bs r0 TD RW BA x d b S DUE TO WH I so oDUE oTO oWH) k s Q) E s₃) E { s with heap := h, toks := tk })
    (done : ∀ (tds rvs avs : List Value) (tdn rn an : Nat) (own : List (Addr × Obj)) (m : Str → Option Value) (h : Heap) (tk : Nat),
      m "told" = some (.ref TD) → m "row" = some (.ref RW) → m "barred" = some (.ref BA) → m "due" = some (.ref DUE) → IntsAre tds ((whole bs r0 4).filter (np bs)) → IntsAre rvs (whole bs r0 4) → Fr h₀ L h m → News h₀ L h (hdF TD RW BA x d b S DUE TO WH I so oDUE oTO oWH tds rvs avs tdn rn an ++ own) → Q .next { s with heap := h, toks := tk }) :
    wpAny (model PP w) A (pyIter (.ref x)) (ForAt PP w A E h₀ L env nm body Q) E s := by
  have hself : SelfIter PP w (.ref x) s.heap := selfIter_ff (hX₀.keeps F.keep) (T₀.keeps F.keep) (N (x, ffObj d (.ref I) b) (by simp)).1 (N (d, dictOf [] 0) (by simp)).1
  refine hself A _ E s hdp hu (fun _ _ e => e) fun tk₀ h₁ hk₁ => ?_
  have F₁ : Fr h₀ L h₁ m := F.keeps hk₁
  have N₁ := News_keeps N hk₁
  have hsub : ∀ q ∈ hdF TD RW BA x d b S DUE TO WH I so oDUE oTO oWH [] rvs avs 0 rn an, q ∈ ((I, oI) :: (x, ffObj d (.ref I) b) :: (d, dictOf [] 0) :: (b, boundHas S) :: (S, so) :: (TD, listOf #[] 0) :: (DUE, oDUE) :: n1 :: lv :: (TO, oTO) :: (WH, oWH) :: cb :: cB :: (RW, listOf (List.toArray rvs) rn) :: (BA, listOf (List.toArray avs) an) :: own) := by
    intro q hq
    simp only [List.mem_cons, List.not_mem_nil, or_false] at hq
    rcases hq with rfl | rfl | rfl | rfl | rfl | rfl | rfl | rfl | rfl | rfl <;> simp [List.mem_cons]
  have hsI : ∀ q ∈ (I, oI) :: hdF TD RW BA x d b S DUE TO WH I so oDUE oTO oWH [] rvs avs 0 rn an, q ∈ ((I, oI) :: (x, ffObj d (.ref I) b) :: (d, dictOf [] 0) :: (b, boundHas S) :: (S, so) :: (TD, listOf #[] 0) :: (DUE, oDUE) :: n1 :: lv :: (TO, oTO) :: (WH, oWH) :: cb :: cB :: (RW, listOf (List.toArray rvs) rn) :: (BA, listOf (List.toArray avs) an) :: own) := fun q hq =>
    (List.mem_cons.mp hq).elim (fun e => e ▸ List.mem_cons_self) (hsub q)
  have NB := news_back N₁ hsI
  have hoff0 := beside_off (news := (I, oI) :: (x, ffObj d (.ref I) b) :: (d, dictOf [] 0) :: (b, boundHas S) :: (S, so) :: (TD, listOf #[] 0) :: (DUE, oDUE) :: n1 :: lv :: (TO, oTO) :: (WH, oWH) :: cb :: cB :: (RW, listOf (List.toArray rvs) rn) :: (BA, listOf (List.toArray avs) an) :: own) (((I, oI) :: hdF TD RW BA x d b S DUE TO WH I so oDUE oTO oWH [] rvs avs 0 rn an).map (·.1))
  generalize beside (((I, oI) :: hdF TD RW BA x d b S DUE TO WH I so oDUE oTO oWH [] rvs avs 0 rn an).map (·.1)) _ = ob at NB hoff0
  have hpre0 : r0 <+: whole bs r0 4 := by rw [whole4 hrl]; exact List.prefix_append _ _
  have hw4 := whole_len4 (bs := bs) (i := 4) (Nat.le_refl _) hrn
  refine ⟨JF bs r0 TD RW BA x d b S DUE TO WH I so oDUE oTO oWH, (whole bs r0 4).length - 0, m, _, F₁, NB, .mk (i := 0) rfl (Nat.zero_le _) m1 m2 m3 m4 hoff0 hI hr (by simp [nxt]) (by simpa using IntsAre.nil) (by omega) hpre0, ?_⟩
  intro k m' news' h' tk' J F' N'
  cases J with
  | mk a1 a2 a3 a4 a5 a6 a7 a8 a9 a10 a11 a12 a13 =>
    rename_i i tds rvs avs tdn rn an oI own' rs
    have hrsl := a13.length_le
    have e1 := IntsAre.length a9
    have e2 := IntsAre.length a11
    have e3 := List.length_filter_le (np bs) (rs.take i)
    have e4 : (rs.take i).length ≤ i := by rw [List.length_take]; omega
    have hneq : ∀ q ∈ hdF TD RW BA x d b S DUE TO WH I so oDUE oTO oWH tds rvs avs tdn rn an, q.1 ≠ I := by
      intro q hq
      simp only [List.mem_cons, List.not_mem_nil, or_false] at hq
      rcases hq with rfl | rfl | rfl | rfl | rfl | rfl | rfl | rfl | rfl | rfl
      · exact hne.1
      · exact hne.2.1
      · exact hne.2.2.1
      · exact hne.2.2.2.1
      · exact hne.2.2.2.2.1
      · exact hne.2.2.2.2.2.1
      · exact hne.2.2.2.2.2.2.1
      · exact hne.2.2.2.2.2.2.2.1
      · exact hne.2.2.2.2.2.2.2.2.1
      · exact hne.2.2.2.2.2.2.2.2.2
    have hc : ChainIn ((I, oI) :: (hdF TD RW BA x d b S DUE TO WH I so oDUE oTO oWH tds rvs avs tdn rn an ++ own')) I [fun k => decide (k ∈ bs)] (.ref x) :=
      ⟨x, d, b, S, so, .ref I, rfl, by simp, by simp, by simp, by simp, hS, rfl⟩
    refine law_pn (rn := rn) (fs := [fun k => decide (k ∈ bs)]) (hd := hdF TD RW BA x d b S DUE TO WH I so oDUE oTO oWH tds rvs avs tdn rn an) F' N' hX₀ T₀ hA hf hk hh (by simp only [List.length_cons, List.length_nil]; omega) List.mem_cons_self a8 (by simp) a9 hc (fun q hq => List.mem_cons_of_mem _ (List.mem_append_left _ hq)) hneq ?_ ?_
    · intro j a t h'' tk'' oI' own'' hij hja hpass hbet hli hoff F'' N'' _
      have hp := (pass_iff bs a).mp hpass
      have hb : ∀ k x, i ≤ k → k < j → rs[k]? = some x → np bs x = false := fun k x h1 h2 h3 => by
        have := hbet k x h1 h2 h3
        rw [pass_iff] at this
        simpa using this
      obtain ⟨s1, s2, s3, s4, s5⟩ := row_step hrl a2 a10 hij hja hp hb a13
      refine turn k a t rs ((rs.take i).filter (np bs)) tds rvs avs tdn rn an oI' own'' m' h'' tk'' a3 a4 a5 a6 hoff a9 a11 (by omega) (by omega) (by omega) F'' N'' ?_
      intro m3' tds' rvs' avs' tdn' rn' an' h3 tk3 b1 b2 b3 b4 b5 b6 b7 F3 N3
      refine ⟨(whole bs r0 4).length - (j + 1), m3', _, h3, tk3, ?_, rfl, F3, N3, .mk (i := j + 1) rfl s1 b1 b2 b3 b4 hoff hli b5 s2 (by rw [s3]; exact b6) (by omega) s4⟩
      subst a1
      omega
    · intro h'' tk'' own'' hno hoff F'' N''
      have hb : ∀ k x, i ≤ k → rs[k]? = some x → np bs x = false := fun k x h1 h3 => by
        have := hno k x h1 h3
        rw [pass_iff] at this
        simpa using this
      have hd := drop_pass hb
      have hre : rs = r0 ++ nxt bs rs := by
        rw [nxt_of_filter hd]; exact a10
      have hrw := row_end hrl hre a13
      refine done tds rvs avs tdn rn an own'' m' h'' tk'' a3 a4 a5 a6 ?_ (hrw ▸ a9) F'' N''
      rw [← hrw, hd]; exact a11
end
end Mine
namespace Mine
theorem two_snoc {rvs : List Value} {rs : List Int} {x y : Int} {t u : Tok} (h : IntsAre rvs rs) : IntsAre ((rvs ++ [.int x t]) ++ [.int y u]) (rs ++ [x, y]) := by
  have := ints_snoc' (a := y) (t := u) (ints_snoc' (a := x) (t := t) h)
  have e : rs ++ [x] ++ [y] = rs ++ [x, y] := by simp
  rw [e] at this
  exact this
abbrev pairObj (a b : Addr) : Obj := { cls := .type "tuple", data := .seq #[.ref a, .ref b] }
theorem eqvAll_ints (ns : List Int) : PyData.eqvAll (ns.map PyData.int) (ns.map PyData.int) = true := by rw [ked_eqvAll]; exact decide_eq_true rfl
theorem shaped_pair (ns ms : List Int) : SeqAt.shaped (.tuple [.list (ns.map PyData.int), .list (ms.map PyData.int)]) = true := by
  simp [SeqAt.shaped, PyData.canLay0, PyData.canLayAll0, PyData.depth, PyData.depthAll, ke_canLayAll0, ke_depthAll]
section
variable {prog : Program} {w : World} {A : Around} {E : Value → Shared → Prop} {s : Shared} {h₀ : Heap} {L : Addr} {news : List (Addr × Obj)}
theorem eq_pair {t1 t2 a b c e : Addr} {xa xb xc xe : List Value} {na nb nc ne : Nat} {ns ms : List Int} {Q : Value → Shared → Prop} (N : News h₀ L s.heap news) (h1 : (t1, pairObj a b) ∈ news) (h2 : (t2, pairObj c e) ∈ news)
    (ha : (a, listOf (List.toArray xa) na) ∈ news) (hb : (b, listOf (List.toArray xb) nb) ∈ news) (hc : (c, listOf (List.toArray xc) nc) ∈ news) (he : (e, listOf (List.toArray xe) ne) ∈ news)
    (ia : IntsAre xa ns) (ib : IntsAre xb ms) (ic : IntsAre xc ns) (ie : IntsAre xe ms) (hu : A.units + 64 < cLine) (h : Q (.bool true) s) :
    wpAny (model prog w) A (compareOp .Eq (.ref t1) (.ref t2)) Q E s := by
  refine eq_dataH (reads_tuple_at (N.get h1) rfl rfl (.cons (reads_newData ⟨_, N.get ha, rfl, na, rfl⟩ (ke_carried ia)) (.cons (reads_newData ⟨_, N.get hb, rfl, nb, rfl⟩ (ke_carried ib)) .nil)))
    (reads_tuple_at (N.get h2) rfl rfl (.cons (reads_newData ⟨_, N.get hc, rfl, nc, rfl⟩ (ke_carried ic)) (.cons (reads_newData ⟨_, N.get he, rfl, ne, rfl⟩ (ke_carried ie)) .nil))) (shaped_pair _ _) (shaped_pair _ _) hu ?_
  simp only [PyData.eqv, PyData.eqvAll, eqvAll_ints, Bool.and_true]
  exact h
end
end Mine
open Mine
local macro_rules | `(tactic| walk_at "eval ListComp") => `(tactic| (k_here; k_dflt (refine Comp_eval (by k_asm) (by with_unfolding_all rfl) (by decide) (by rfl) (by decide) (by rfl) ?_)))
local macro_rules | `(tactic| walk_at "exec Assign cons ListComp") => `(tactic| (k_here; (with_reducible show wpAny _ _ (exec (Stmt.Assign [Expr.Name _ _] (Expr.ListComp _ [_] _ _) _) _) _ _ _); k_dflt (refine Comp_assign (by k_asm) (by with_unfolding_all rfl) (by decide) (by rfl) (by decide) (by rfl) (by rfl) ?_)))
local macro_rules | `(tactic| walk_at "exec Assign cons ListComp") => `(tactic| (k_here; (with_reducible show wpAny _ _ (exec (Stmt.Assign [Expr.Name _ _] (Expr.ListComp _ [_, _] _ _) _) _) _ _ _); refine haltI ?_))
local macro_rules | `(tactic| walk_at "exec While Compare cons nil") => `(tactic| (refine haltI ?_))
local macro_rules | `(tactic| walk_at "eval Name") => `(tactic| (k_here; k_dflt (refine' nameX_L ?F ?v ?_ ?a ?b; (case F => k_asm); (case a => rfl); (case b => rfl); (case v => assumption); k_whole)))
local macro_rules | `(tactic| walk_at "eval Name") => `(tactic| (k_here; (with_reducible show wpAny _ _ (eval (Expr.Name _ _) (compEnvC _ _ _ _)) _ _ _); k_dflt (first
  | (refine' name_comp ?F ?v ?_ ?a ?b; (case F => k_asm); (case a => rfl); (case b => rfl); (case v => assumption); k_whole)
  | (refine' name_compB ?F ?X ?T ?e ?v ?n ?_ ?a ?b ?c ?d; (case F => k_asm); (case X => k_asm); (case T => k_asm); (case a => rfl); (case b => rfl); (case c => rfl); (case d => rfl); (case e => k_is); (case v => boot_fast); (case n => decide); k_whole))))
local macro_rules | `(tactic| walk_at "call builtin:list.extend") => `(tactic| (k_here; (with_reducible show wpAny _ _ (call (Value.builtin _) [Value.ref _, Value.ref _]) _ _ _); k_dflt (refine' extend_N ?F ?N ?b ?U ?z ?_; (case F => k_asm); (case N => k_asm); (case b => k_mem); (case U => k_updF); (case z => omega)); intro h' n' F' N'; (try dsimp only at N'); (try k_sweep)))
local macro_rules | `(tactic| walk_at "call type:set") => `(tactic| (k_here; k_dflt (refine' set_list_N ?F ?N ?m ?h ?i ?b ?_; (case F => k_asm); (case N => k_asm); (case m => k_mem); (case h => exact rfl); (case i => assumption); (case b => omega)); intro S' so' h' tk' F' N' l1 hs'; (try k_lt l1); (try k_sweep)))
local macro_rules | `(tactic| walk_at "getAttr ref") => `(tactic| (k_here; (with_reducible show wpAny _ _ (getAttr _ (Str.ofString "__contains__") _) _ _ _); k_dflt (refine' getAttr_has_N ?F ?N ?m ?s ?_; (case F => k_asm); (case N => k_asm); (case m => k_mem); (case s => assumption)); intro b' h' F' N' l1; (try k_lt l1); (try k_sweep)))
local macro_rules | `(tactic| walk_at "call builtin:iter") => `(tactic| (k_here; k_dflt (refine' iter_list_N ?F ?N ?l ?_; (case F => k_asm); (case N => k_asm); (case l => kmk_list)); intro I' h' F' N' l1; (try k_lt l1); (try k_sweep)))
local macro_rules | `(tactic| walk_at "call builtin:list.append") => `(tactic| (k_here; k_dflt (refine' append_G ?F ?N ?U ?z ?_; (case F => k_asm); (case N => k_asm); (case U => k_upd); (case z => omega)); intro h' F' N'; (try k_sweep)))
local macro_rules | `(tactic| walk_at "setAttr ref") => `(tactic| (k_here; k_dflt (refine' set_slot ?k1 ?k2 ?k3 ?k4 ?k5 ?k6 ?k7 ?k8 ?k9 ?k10 ?k11 ?k12 ?k13 ?_; (case k1 => k_asm); (case k2 => k_asm); (case k3 => k_asm); (case k4 => k_inst); (case k5 => k_is); (case k6 => k_is); (case k7 => k_is); (case k8 => k_is); (case k9 => k_is); (case k10 => decide); (case k11 => k_slotset); (case k12 => exact rfl); (case k13 => (first | (refine' Upd.head ?uc; (case uc => ((repeat (refine' List.forall_mem_cons.mpr ⟨by k_ne, ?_⟩)); first | exact List.forall_mem_nil _ | (rename _ < _ ∧ _ => q; first | ((repeat (first | exact allLt_ne q (by omega) | replace q := q.2)); done) | (clear q; rename _ < _ ∧ _ => q; first | ((repeat (first | exact allLt_ne q (by omega) | replace q := q.2)); done) | (clear q; rename _ < _ ∧ _ => q; first | ((repeat (first | exact allLt_ne q (by omega) | replace q := q.2)); done) | (clear q; rename _ < _ ∧ _ => q; ((repeat (first | exact allLt_ne q (by omega) | replace q := q.2)); done)))))))) | (refine' Upd.tail ?ua ?ub; (case ua => k_ne); (case ub => (refine' Upd.head ?uc; (case uc => ((repeat (refine' List.forall_mem_cons.mpr ⟨by k_ne, ?_⟩)); first | exact List.forall_mem_nil _ | (rename _ < _ ∧ _ => q; first | ((repeat (first | exact allLt_ne q (by omega) | replace q := q.2)); done) | (clear q; rename _ < _ ∧ _ => q; first | ((repeat (first | exact allLt_ne q (by omega) | replace q := q.2)); done) | (clear q; rename _ < _ ∧ _ => q; first | ((repeat (first | exact allLt_ne q (by omega) | replace q := q.2)); done) | (clear q; rename _ < _ ∧ _ => q; ((repeat (first | exact allLt_ne q (by omega) | replace q := q.2)); done)))))))))))); k_whole; intro h' F' N'; (try k_sweep))))
local macro_rules | `(tactic| walk_at "exec For Name Name cons nil") => `(tactic| (k_here; (rename Fr _ _ _ _ => lF'); (with_unfolding_all refine For_N lF' ?_)))
local macro_rules | `(tactic| walk_at "compareOp Eq ref ref") => `(tactic| (refine haltI ?_))
theorem PySem.Challenge.cw_kn0115_02_holds : PySem.Challenge.rw_kn0115_02.Holds := by
  refine Mine.hd ?_
  k_go0
  all_goals try k_fold
  k_steps
  all_goals first | (exfalso; (rename _ < (0 : Int) => hneg); exact absurd hneg (Int.not_lt.mpr (cut_nn _))) | skip
  rename Fr _ _ _ _ => F1
  rename News _ _ _ _ => N1
  rename IntsAre _ _ => hI1
  refine comp_mapU (fun x => (if x < 0 then -x else x).fmod 12) F1 N1 (by k_mem) hI1 (by rw [IntsAre.length hI1]; omega) rfl (compFin_none F1 N1 ?_) ?_
  rotate_left
  · clear F1 N1
    intro C d td h tk m₃ E' g dd os hd F1 N1 hm3
    k_steps
    all_goals exact ⟨_, _, rfl, fun _ _ e => e⟩
  clear F1 N1
  intro D ys' n' h tk F1 N1 hne hys'
  have l9 := allNe_of hne
  simp only [AllNe, and_true] at l9
  k_steps
  all_goals first | (exfalso; (rename _ < (0 : Int) => hneg); exact absurd hneg (Int.not_lt.mpr (cut_nn _))) | skip
  rename Fr _ _ _ _ => F1
  rename News _ _ _ _ => N1
  rename IntsAre _ (_ ++ _) => hR1
  rename IntsAre _ (List.drop _ _) => hI1
  refine comp_mapU (fun x => (if x < 0 then -x else x).fmod 12) F1 N1 (by k_mem) hI1 (by rw [IntsAre.length hI1]; omega) rfl (compFin_store F1 N1 rfl rfl rfl ?_) ?_
  rotate_left
  · clear F1 N1
    intro C d td h tk m₃ E' g dd os hd F1 N1 hm3
    k_steps
    all_goals exact ⟨_, _, rfl, fun _ _ e => e⟩
  clear F1 N1
  intro D2 bvs bn h tk F1 N1 hne2 hbvs
  have l9 := allNe_of hne2
  simp only [AllNe, and_true] at l9
  k_steps
  obtain ⟨r0, hr0, hrl, hrn⟩ := row_abs hR1 (by assumption)
  obtain ⟨bs, hbs, hbl, hbn⟩ := bar_abs hbvs (by assumption)
  have hbvl := IntsAre.length hbs
  have hr0l := IntsAre.length hr0
  rename Fr _ _ _ _ => F1
  rename News _ _ _ _ => N1
  unfold Halt
  refine law2_enter (bs := bs) F1 N1 rfl rfl rfl hr0 ?_ ⟨by k_ne, by k_ne, by k_ne, by k_ne, by k_ne, by k_ne⟩ ?_
  · intro p hp b hb
    simp only [List.mem_cons, List.not_mem_nil, or_false] at hp hb
    rcases hp with rfl | rfl | rfl | rfl <;> rcases hb with rfl | rfl | rfl | rfl | rfl | rfl <;> k_ne
  clear F1 N1
  intro i m h tk lvs ts wvs lvn tn wn LV own hi e1 e2 e3 hoff hne hlv hts hwv F1 N1
  have hl1 := lev_len4 (bs := bs) hi hrn
  have hl2 := whole_len4 (bs := bs) hi hrn
  have hl3 := List.length_filter_le (np bs) (whole bs r0 i)
  have hl4 := IntsAre.length hlv
  have hl5 := IntsAre.length hwv
  have hl6 := IntsAre.length hts
  k_steps
  · rename IsHas _ _ => hhas
    rename Fr _ _ _ _ => F1
    rename News _ _ _ _ => N1
    rw [whole_exit hi (by assumption)] at hts hwv
    refine law2_for (bs := bs) F1 N1 (by assumption) (topRead_of (by assumption)) rfl rfl (by show ScopeKind.function ≠ ScopeKind.module; decide) rfl (by k_room) (Nat.le_of_ble_eq_true rfl) ⟨rfl, rfl⟩ hhas hr0 hrl hrn (by simp only [List.length_append, List.length_singleton]; omega) rfl rfl rfl rfl ⟨by k_ne, by k_ne, by k_ne, by k_ne, by k_ne, by k_ne, by k_ne, by k_ne, by k_ne, by k_ne⟩ ?_ ?_
    · clear F1 N1
      intro k a t rs told tds rvs avs tdn rn an oI own3 m h tk e1 e2 e3 e4 hoff3 hrs htd z1 z2 z3 F1 N1 fin
      k_steps
      · rename Fr _ _ _ _ => F1
        rename News _ _ _ _ => N1
        exact fin _ _ _ _ _ _ _ _ _ (by exact e1) (by exact e2) (by exact e3) (by exact e4) (by rw [if_pos (by assumption)]; (try simp only [List.concat_eq_append]); exact two_snoc hrs) (ints_snoc' htd) (by simp) F1 N1
      · rename Fr _ _ _ _ => F1
        rename News _ _ _ _ => N1
        exact fin _ _ _ _ _ _ _ _ _ (by exact e1) (by exact e2) (by exact e3) (by exact e4) (by rw [if_neg (by assumption), List.append_nil]; exact hrs) (ints_snoc' htd) (by simp) F1 N1
    · clear F1 N1
      intro tds rvs avs tdn rn an own3 m h tk e1 e2 e3 e4 htd hrs F1 N1
      simp only [hdF, List.cons_append, List.nil_append] at N1
      k_steps
      rename News _ _ _ _ => N1
      unfold Halt
      refine eq_pair N1 (by k_mem) (by k_mem) (by k_mem) (by k_mem) (by k_mem) (by k_mem) htd hrs hts hwv (Nat.le_of_ble_eq_true rfl) ?_
      k_steps
  · have hi3 := lev_ne hrl hi (by assumption)
    have hl7 := lev_len3 (bs := bs) hi3 hrn
    rename Fr _ _ _ _ => F1
    rename News _ _ _ _ => N1
    refine comp_intsU (np bs) F1 N1 (by k_mem) hlv (by omega) rfl rfl (fun _ => rfl) (by decide) (compFin_store F1 N1 rfl rfl rfl ?_) ?_
    rotate_left
    · clear F1 N1
      intro C a ta h tk m₃ E' g dd os ha F1 N1 hm3
      k_steps
      all_goals first | exact ⟨_, _, rfl, fun _ _ e => e⟩ | (unfold np; simp [*]; done) | skip
    clear F1 N1
    intro PA pvs pn h tk F1 N1 hneP hpvs
    have l8 := allNe_of hneP
    simp only [AllNe, and_true] at l8
    have hl8 := IntsAre.length hpvs
    have hl9 := List.length_filter_le (np bs) (lev bs r0 i)
    k_steps
    rename Fr _ _ _ _ => F1
    rename News _ _ _ _ => N1
    unfold Halt
    refine' Comp2_assign F1 ?a1 ?a2 ?a3 ?a4 ?a5 ?a6 ?a7 ?a8 ?a9 ?a10 ?a11
    case a1 => with_unfolding_all rfl
    case a2 => decide
    case a3 => rfl
    case a4 => decide
    case a5 => rfl
    case a6 => rfl
    case a7 => decide
    case a8 => rfl
    case a10 => intro _; rfl
    case a11 => intro _ _; rfl
    k_steps
    rename Fr _ _ _ _ => F1
    rename News _ _ _ _ => N1
    refine ⟨gt1, fun a b => a.fdiv b, [2, 3], PA, pvs, _, _, _, rfl, ⟨F1, N1, ⟨_, N1.get (by k_mem), rfl, pn, rfl⟩, hpvs, by omega, by decide, rfl, ?_, ?_, ?_, compFin_store F1 N1 rfl rfl rfl ?_⟩⟩
    · clear F1 N1
      intro C a ta h tk m₃ E' g dd os ha F1 N1 hm3
      k_steps
      all_goals first | exact ⟨_, _, rfl, fun _ _ e => e⟩ | (unfold gt1; simp [*]; done) | skip
    · clear F1 N1
      intro C h tk m₃ E' g dd os F1 N1
      clear F1 N1
      k_steps
      exact newTuple_tup ⟨_, rfl⟩ (.cons _ _ (.cons _ _ .nil)) (Nat.le_of_ble_eq_true rfl)
    · clear F1 N1
      intro C a ta b tb h tk m₃ E' g dd os ha hpa hb F1 N1 hm3 hm4
      have hb' : b = 2 ∨ b = 3 := by simpa using hb
      rcases hb' with rfl | rfl
      all_goals k_steps
      all_goals first | exact ⟨_, _, rfl, fun _ _ e => e⟩ | skip
    · clear F1 N1
      intro D ys yn h tk F1 N1 hneD hys
      have l7 := allNe_of hneD
      simp only [AllNe, and_true] at l7
      k_steps
      rename Fr _ _ _ _ => F1
      rename News _ _ _ _ => N1
      refine law2_turn_end F1 N1 hi3 rfl e2 e3 hoff hne l8 (by assumption) l7 hys ?_ ?_
      · rw [whole, List.filter_append]
        exact ints_app hts hpvs
      · exact ints_app hwv hlv
