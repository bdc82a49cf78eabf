import PyProof.Rows.All
import Wide.All
import OpenK.AllK
import Wide.FinOn
import Lean
import PySem.Challenge.RW_kn0115_01
open PySem PySem.W PySem.Calls PyProof.Rows
set_option Elab.async false
set_option maxRecDepth 100000
set_option maxHeartbeats 8000000
namespace Mine
open_top hd for PySem.Challenge.rw_kn0115_01
end Mine
namespace Mine

abbrev boundHas (S : Addr) : Obj := { cls := .type "builtin_function_or_method", data := .fields #[.builtin "set.__contains__", .ref S] }

theorem slot_set_has : Slot "set" "__contains__" "set.__contains__" :=
  .of (owner := "set") (n := "__contains__") (by rw [typeLookup_type, builtinLookup_eq_fast]; kernel_rfl) (by decide +kernel) (by decide +kernel) (by decide +kernel)
    (by first | exact .inl (by decide +kernel) | exact .inr (by decide +kernel)) (by rw [isSubtype_type]; kernel_rfl)
theorem slot_set_ga : Slot "set" "__getattribute__" "set.__getattribute__" :=
  .of (owner := "set") (n := "__getattribute__") (by rw [typeLookup_type, builtinLookup_eq_fast]; kernel_rfl) (by decide +kernel) (by decide +kernel) (by decide +kernel)
    (by first | exact .inl (by decide +kernel) | exact .inr (by decide +kernel)) (by rw [isSubtype_type]; kernel_rfl)
theorem slot_md_get : Slot "method_descriptor" "__get__" "method_descriptor.__get__" :=
  .of (owner := "method_descriptor") (n := "__get__") (by rw [typeLookup_type, builtinLookup_eq_fast]; kernel_rfl) (by decide +kernel) (by decide +kernel) (by decide +kernel)
    (by first | exact .inl (by decide +kernel) | exact .inr (by decide +kernel)) (by rw [isSubtype_type]; kernel_rfl)
theorem type_set_has : typeOf (.builtin "set.__contains__") = pure (.type "method_descriptor") := by show builtinType _ = _; rw [builtinType_eq_fast]; kernel_rfl
theorem entry_set_ga : entryFor table "set.__getattribute__" = some Builtin.«object.__getattribute__» :=
  entryFor_alias (id' := "object.__getattribute__") (by rw [fastTable_eq_tree]; kernel_rfl) (by first | rfl | decide +kernel) (by decide +kernel) (by rw [fastTable_eq_tree]; kernel_rfl)
theorem entry_md_get : entryFor table "method_descriptor.__get__" = some Builtin.«method_descriptor.__get__» := by first | exact entryFor_of_fast (by kernel_rfl) | exact entryFor_of_tree (by kernel_rfl)
theorem entry_set_has : entryFor table "set.__contains__" = some Builtin.«frozenset.__contains__» :=
  entryFor_alias (id' := "frozenset.__contains__") (by rw [fastTable_eq_tree]; kernel_rfl) (by first | rfl | decide +kernel) (by decide +kernel) (by rw [fastTable_eq_tree]; kernel_rfl)
theorem args_set_ga (a b : Value) : argsOk "set.__getattribute__" ⟨[a, b], []⟩ := by unfold argsOk; kernel_rfl
theorem args_md_get (a b c : Value) : argsOk "method_descriptor.__get__" ⟨[a, b, c], []⟩ := by unfold argsOk; kernel_rfl
theorem args_set_has (a b : Value) : argsOk "set.__contains__" ⟨[a, b], []⟩ := by unfold argsOk; kernel_rfl
end Mine
namespace Mine
section
variable {prog : Program} {w : World} {A : Around} {E : Value → Shared → Prop} {s : Shared}

theorem md_get_set {S : Addr} {Q : Fin → Shared → Prop} (hT : s.TypeIs (.ref S) "set")
    (h : Q (.done (.ret (.ref s.heap.objs.size))) { s with heap := s.heap.push (boundHas S) }) :
    wpAny (model prog w) A (Builtin.«method_descriptor.__get__» ⟨[.builtin "set.__contains__", .ref S, .type "set"], []⟩) Q E s := by
  unfold Builtin.«method_descriptor.__get__»
  refine wpAny_bind (wpAny_of_eq (a := (.builtin "set.__contains__", some (.ref S), some (.type "set"))) (by first | rfl | kernel_rfl) ?_)
  dsimp only
  have ht : Manifest.toldItsClass.contains "set.__contains__" = false := by decide +kernel
  simp only [ht, Bool.false_eq_true, if_false]
  refine wpAny_bind (m := _) ?_
  refine wpAny_bind (m := _) ?_
  refine wpAny_of_eq (a := (("__contains__" : Str), Value.type "set")) (by first | rfl | kernel_rfl) ?_
  dsimp only
  refine wpAny_bind (wpAny_isInstance hT PySem.sub_set_self ?_)
  refine wpAny_pure ?_
  exact wpAny_bind (wpAny_newObj_type (wpAny_pure h))

theorem getAttr_set_has {S : Addr} {es ep t} {expr : Bool} {Q : Value → Shared → Prop} (ho : s.heap.get? S = some { cls := .type "set", data := .set es ep t })
    (h : Q (.ref s.heap.objs.size) { s with heap := s.heap.push (boundHas S), toks := s.toks + 1 }) :
    wpAny (model prog w) A (getAttr (.ref S) "__contains__" expr) Q E s := by
  have hT : s.TypeIs (.ref S) "set" := ⟨_, ho, rfl⟩
  unfold getAttr
  refine wpAny_bind (wpAny_mkText ?_)
  show wpAny _ _ (getAttrBy (.ref S) (.str "__contains__" s.toks) true expr) Q E { s with toks := s.toks + 1 }
  unfold getAttrBy
  refine wpAny_holding (wpAny_bind (wpAny_typeOf (s := { s with toks := s.toks + 1 }) hT ?_))
  refine wpAny_bind (wpAny_of_eq slot_set_ga.lookup ?_)
  dsimp only
  rw [if_neg (show ¬ ((onTheHeap (.type "set") && (Value.builtin "set.__getattribute__") == Value.builtin "object.__getattribute__") = true) from by decide)]
  unfold getAttrByItsOwn
  refine wpAny_bind (wpAny_of_eq (a := none) rfl ?_)
  refine wpAny_bind (wpAny_attempt (wpAny_holding ?_))
  unfold callGetattribute
  rw [if_neg (show ¬ ((expr && onTheHeap (.builtin "set.__getattribute__")) = true) from by simp [onTheHeap])]
  unfold boundAndCalled
  refine wpAny_bind (wpAny_of_eq (slot_set_ga.bind _) ?_)
  dsimp only
  refine wpAny_call_entry slot_set_ga (s := { s with toks := s.toks + 1 }) hT entry_set_ga ?_ (args_set_ga _ _)
  unfold Builtin.«object.__getattribute__»
  refine wpAny_bind (wpAny_of_eq (a := (Value.ref S, [Value.str (Str.ofString "__contains__") s.toks])) (by first | rfl | kernel_rfl) ?_)
  dsimp only
  refine wpAny_bind (wpAny_of_eq (a := ("__contains__" : Str)) (by first | rfl | kernel_rfl) ?_)
  refine wpAny_bind (wpAny_typeOf (s := { s with toks := s.toks + 1 }) hT ?_)
  unfold Builtin.ObjectAttr.find
  refine wpAny_bind (wpAny_bind (wpAny_of_eq slot_set_has.lookup ?_))
  unfold Builtin.ObjectAttr.getOf
  dsimp only
  refine wpAny_bind (wpAny_specialOf (T := "method_descriptor") (show Shared.TypeIs _ (.builtin "set.__contains__") _ from type_set_has) slot_md_get.lookup ?_)
  unfold Builtin.ObjectAttr.dataDescriptor?
  dsimp only
  have hmd : Shared.TypeIs { s with toks := s.toks + 1 } (.builtin "set.__contains__") "method_descriptor" := type_set_has
  have hset : typeLookup (.type "method_descriptor") "__set__" = pure none := by rw [typeLookup_type, builtinLookup_eq_fast]; kernel_rfl
  have hdel : typeLookup (.type "method_descriptor") "__delete__" = pure none := by rw [typeLookup_type, builtinLookup_eq_fast]; kernel_rfl
  refine wpAny_bind (wpAny_bind ?_)
  unfold Builtin.ObjectAttr.takesStores
  refine wpAny_bind (wpAny_specialOf hmd hset ?_)
  simp only [Option.isSome_none, Bool.false_eq_true, if_false]
  refine wpAny_bind (wpAny_specialOf hmd hdel ?_)
  refine wpAny_pure ?_
  simp only [Option.isSome_none, Bool.false_eq_true, if_false]
  refine wpAny_pure ?_
  dsimp only
  unfold Builtin.ObjectAttr.ownThenClass Builtin.ObjectAttr.inOwnDict Builtin.ObjectAttr.ownDict
  refine wpAny_bind (wpAny_bind (wpAny_bind (wpAny_loadPart ho ?_)))
  dsimp only
  unfold instanceDict
  refine wpAny_bind (wpAny_loadPart ho ?_)
  refine wpAny_pure ?_
  unfold Builtin.ObjectAttr.inDict
  refine wpAny_pure ?_
  dsimp only
  refine wpAny_bind (wpAny_of_eq (a := ()) (by first | rfl | kernel_rfl) ?_)
  unfold Builtin.ObjectAttr.byTheClass
  refine wpAny_bind (wpAny_rule ?_)
  refine wpAny_pure ?_
  dsimp only
  unfold Builtin.ObjectAttr.bindTo
  dsimp only
  refine wpAny_bind (wpAny_holding ?_)
  refine wpAny_call_entry slot_md_get (s := { s with toks := s.toks + 1 }) (show Shared.TypeIs _ (.builtin "set.__contains__") _ from type_set_has) entry_md_get ?_ (args_md_get _ _ _)
  refine md_get_set (s := { s with toks := s.toks + 1 }) hT ?_
  refine ⟨_, rfl, ?_⟩
  refine wpAny_pure ⟨_, rfl, ?_⟩
  exact wpAny_pure h
end
end Mine
namespace Mine
section
variable {prog : Program} {w : World} {A : Around} {E : Value → Shared → Prop} {s : Shared}

theorem check_bound_has {S : Addr} {v : Value} {Q : Unit → Shared → Prop} (hT : s.TypeIs (.ref S) "set") (hno : ∃ o es ep t, s.heap.get? S = some o ∧ o.data = .set es ep t) (h : Q () s) :
    wpAny (model prog w) A (checkBoundCall "set.__contains__" ⟨[.ref S, v], []⟩) Q E s := by
  unfold checkBoundCall
  have hsig : Manifest.signature? "set.__contains__" = some ⟨.oneArg, "set.__contains__", "__contains__", .self, [⟨"object", .posOnly, true⟩]⟩ := by kernel_rfl
  have hk : builtinKind "set.__contains__" = some .method := by decide +kernel
  rw [hsig, hk]
  dsimp only
  rw [if_neg (by decide)]
  have hmod : isSubtype (.type "set") (.type "module") = pure false := by rw [isSubtype_type]; kernel_rfl
  refine wpAny_bind (wpAny_isInstance hT hmod ?_)
  have hv : Manifest.varargsMethods.contains "set.__contains__" = false := by decide +kernel
  simp only [hv, Bool.or_false, Bool.false_eq_true, if_false]
  obtain ⟨o, es, ep, t, ho, hd⟩ := hno
  have hb : wpAny (model prog w) A (isType (.ref S)) (fun b s' => b = false ∧ s' = s) E s := by
    unfold isType
    dsimp only
    refine wpAny_bind (wpAny_loadPart ho ?_)
    rw [hd]
    exact wpAny_pure ⟨rfl, rfl⟩
  refine wpAny_bind (wpAny_mono hb ?_ (fun _ _ z => z))
  rintro b s' ⟨rfl, rfl⟩
  simp only [Bool.false_eq_true, if_false]
  refine wpAny_bind (wpAny_typeOf hT ?_)
  dsimp only
  exact wpAny_of_eq (by kernel_rfl) h

theorem call_bound {b S : Addr} {v : Value} {Q : Value → Shared → Prop} (hb : s.heap.get? b = some (boundHas S)) (hT : s.TypeIs (.ref S) "set") (hno : ∃ o es ep t, s.heap.get? S = some o ∧ o.data = .set es ep t)
    (h : wpAny (model prog w) A.in1 (Builtin.«frozenset.__contains__» ⟨[.ref S, v], []⟩) (fun fin s' => ∃ r, fin = .done (.ret r) ∧ Q r s') E s) :
    wpAny (model prog w) A (call (.ref b) [v]) Q E s := by
  refine wpAny_call (codeAny_of_tree ?_)
  show wpAny _ A.in1 (callAny (.ref b) _) _ _ _
  unfold callAny
  refine wpAny_bind (wpAny_load hb ?_)
  dsimp only
  rw [if_pos (by decide)]
  refine wpAny_bind (m := _) (check_bound_has hT hno ?_)
  refine wpAny_pure (And.intro (plainId_quiet slot_set_has.plain _) (codeAny_builtin entry_set_has ?_))
  rw [Around.under_plainId slot_set_has.plain _]
  refine wpAny_mono h (fun fin s' hf => ?_) fun _ _ z => z
  obtain ⟨r, rfl, hq⟩ := hf
  exact hq

theorem has_body {K : Type} [DecidableEq K] [BEq K] [LawfulBEq K] {knd : KeyKind prog w K} {S : Addr} {Sf : K → Bool} {n : Nat} {k : K} {key : Value} {Q : Fin → Shared → Prop}
    (hkey : knd.is k key = true) (hsc : key.scannable = true) (hS : s.heap.SetOf knd S Sf n) (h : Q (.done (.ret (.bool (Sf k)))) { s with toks := s.toks + 1 }) :
    wpAny (model prog w) A (Builtin.«frozenset.__contains__» ⟨[.ref S, key], []⟩) Q E s := by
  unfold Builtin.«frozenset.__contains__» Builtin.Frozenset.oneOther
  simp only [List.isEmpty_nil, bind_assoc]
  unfold Builtin.Frozenset.addrOf Builtin.Frozenset.withSetAsKey setContains
  refine wpAny_bind (wpAny_pure ?_)
  try dsimp only
  refine wpAny_bind (wpAny_pure ?_)
  try dsimp only
  refine wpAny_bind (wpAny_tryCatch ?_)
  refine wpAny_holding ?_
  refine wpAny_bind (knd.pyHash hkey ?_)
  refine wpAny_bind (wpAny_setFind_of (s := { s with toks := s.toks + 1 }) hkey hsc hS fun r hr => ?_)
  refine wpAny_pure ?_
  show wpAny _ _ (ret (Value.bool r.isSome)) _ _ _
  rw [hr]
  exact wpAny_pure h

theorem call_has {K : Type} [DecidableEq K] [BEq K] [LawfulBEq K] {knd : KeyKind prog w K} {b S : Addr} {Sf : K → Bool} {n : Nat} {k : K} {key : Value} {Q : Value → Shared → Prop}
    (hb : s.heap.get? b = some (boundHas S)) (hkey : knd.is k key = true) (hsc : key.scannable = true) (hS : s.heap.SetOf knd S Sf n) (h : Q (.bool (Sf k)) { s with toks := s.toks + 1 }) :
    wpAny (model prog w) A (call (.ref b) [key]) Q E s := by
  refine call_bound hb hS.typeIs ?_ (has_body hkey hsc hS ⟨_, rfl, h⟩)
  obtain ⟨o, es, ep, t, ho, _, hd, _⟩ := hS
  exact ⟨o, es, ep, t, ho, hd⟩

/-- a call, by a name, of a bound method of a built-in: the keeper is the machine -/
theorem callWith_bm {M : Model} {pos : Pos} {u S : Addr} {first : List Value} {args : List (Bool × Sem Value)} {Q : Value → Shared → Prop} (hplain : args.any (·.1) = false)
    (h : wpAny M A (evalArgs (.ref u) true args []) (fun x s₁ => s₁.heap.get? u = some (boundHas S) ∧ wpAny M A (call (.ref u) (first ++ x.pos) x.kw) Q E s₁) E s) : wpAny M A (callWith pos (.ref u) first args []) Q E s := by
  unfold callWith
  refine wpAny_bind (wpAny_holding (wpAny_mono h (fun x s₁ h₁ => wpAny_bind (wpAny_standAt ?_)) fun _ _ x => x))
  obtain ⟨ho, hcall⟩ := h₁
  simp only [hplain, List.any_nil, Bool.or_false]
  refine wpAny_bind (m := keeperOf (.ref u)) ?_
  unfold keeperOf
  refine wpAny_bind (wpAny_load ho ?_)
  simp only [show (Value.type "builtin_function_or_method" != Value.type "method") = true by decide, show (Value.type "builtin_function_or_method" == Value.type "builtin_function_or_method" || Value.type "builtin_function_or_method" == Value.type "method-wrapper") = true by decide, if_true]
  refine wpAny_pure ?_
  exact wpAny_bind (wpAny_mono hcall (fun r s₂ hr => wpAny_bind (wpAny_holding (wpAny_point (wpAny_pure hr)))) fun _ _ x => x)
end
end Mine
namespace Mine
section
variable {prog : Program} {w : World} {A : Around} {E : Value → Shared → Prop} {s : Shared}
abbrev freshSet (led : Bool) : Obj := { cls := .type "set", dict := none, data := .set #[] 0 (.fresh 0 0 led) }

theorem call_set_open {r : Addr} {Q : Value → Shared → Prop}
    (h : ∀ led : Bool, wpAny (model prog w) A.in1.in1 (Builtin.Frozenset.updateFrom "set.__init__" s.heap.objs.size (.ref r)) (fun _ s' => Q (.ref s.heap.objs.size) s') E { s with heap := s.heap.push (freshSet led) }) :
    wpAny (model prog w) A (call (.type "set") [.ref r]) Q E s := by
  obtain ⟨c, tl, hmro⟩ := F.called_set.mro
  have hmade := F.called_set.made
  have hsub := F.called_set.sub
  refine wpAny_call (codeAny_of_tree ?_)
  show wpAny _ _ (callAny (.type "set") _) _ _ _
  refine wpAny_pure ⟨Code.quiet_builtin _ (by decide +kernel), codeAny_builtin F.entry_type_call ?_⟩
  rw [Around.under_plain (weight_type_call_type "set" [.ref r] []) rfl]
  have h1 := F.called_set.notType
  have h2 := F.called_set.canCreate
  have hct := F.typeCall_set_1 (.ref r)
  repeat (any_goals (first | assumption | wp_step))
  refine codeAny_mono (code_set_new_1 (.ref r) (E := E) (Q₁ := fun obj s₁ => ∃ led : Bool, obj = .ref s.heap.objs.size ∧ s₁ = { s with heap := s.heap.push (freshSet led) }) fun led => ⟨led, rfl, rfl⟩) fun res s₁ hr => ?_
  match res, hr with
  | .error e, hr => exact hr
  | .ok (.ret obj), hr =>
    obtain ⟨led, rfl, rfl⟩ := hr
    have hS : (s.heap.push (freshSet led)).get? s.heap.objs.size = some (freshSet led) := Heap.get?_push_size _ rfl
    have hT : Shared.TypeIs { s with heap := s.heap.push (freshSet led) } (.ref s.heap.objs.size) "set" := ⟨_, hS, rfl⟩
    have hli := F.called_set.init.lookup
    have hbi := F.called_set.init.bind (.ref s.heap.objs.size)
    repeat (any_goals (first | assumption | wp_step))
    refine codeAny_mono (codeAny_call_builtin (R := wants (fun r s₂ => r = .none ∧ Q (.ref s.heap.objs.size) s₂) E) F.called_set.init.plain F.entry_set_init (check_set_init_1 hT ?_)) fun r₂ s₂ hr₂ => ?_
    · unfold Builtin.«set.__init__»
      refine wpAny_bind (wpAny_of_eq (a := ()) (by first | rfl | kernel_rfl) ?_)
      dsimp only
      refine wpAny_bind (m := _) ?_
      unfold typeNameOfCut shownTypeOf
      refine wpAny_bind (wpAny_bind (wpAny_typeOf hT ?_))
      refine wpAny_of_eq (a := Value.type "set") (by first | rfl | kernel_rfl) ?_
      refine wpAny_of_eq (a := "set") (by first | rfl | kernel_rfl) ?_
      refine wpAny_bind (wpAny_of_eq (a := ()) (by first | rfl | kernel_rfl) ?_)
      refine wpAny_bind (wpAny_pure ?_)
      unfold setUsed
      refine wpAny_bind (wpAny_bind ?_)
      unfold setState
      refine wpAny_bind (wpAny_load hS ?_)
      dsimp only
      rw [if_neg (by cases led <;> decide)]
      refine wpAny_pure (wpAny_pure ?_)
      rw [if_neg (by cases led <;> decide)]
      refine wpAny_bind (wpAny_mono (h led) (fun _ s' hq => ?_) fun _ _ z => z)
      exact wpAny_pure ⟨rfl, hq⟩
    · match r₂, hr₂ with
      | .error e, hr₂ => exact hr₂
      | .ok (.ret v), hr₂ =>
        obtain ⟨rfl, hq⟩ := hr₂
        repeat (any_goals (first | assumption | wp_step))
      | .ok .next, hr => exact hr.elim
      | .ok .brk, hr => exact hr.elim
      | .ok .cont, hr => exact hr.elim
  | .ok .next, hr => exact hr.elim
  | .ok .brk, hr => exact hr.elim
  | .ok .cont, hr => exact hr.elim
end
end Mine
namespace Mine
section
variable {prog : Program} {w : World} {A : Around} {E : Value → Shared → Prop} {s : Shared}

/-- what set() is asked to read: a thing of a type that is neither set nor dict -/
structure PlainSource (T : String) : Prop where
  noSet : isSubtype (.type T) (.type "set") = pure false
  noFrozen : isSubtype (.type T) (.type "frozenset") = pure false
  noDict : (Value.type T == Value.type "dict") = false
theorem source_list : PlainSource "list" := ⟨F.sub_list_set, F.sub_list_frozenset, by decide⟩
theorem source_range : PlainSource "range" := ⟨by rw [isSubtype_type]; kernel_rfl, by rw [isSubtype_type]; kernel_rfl, by decide⟩

theorem updateFrom_open {S r : Addr} {T : String} {Q : Unit → Shared → Prop} (hT : s.TypeIs (.ref r) T) (P : PlainSource T)
    (h : wpAny (model prog w) A (pyIter (.ref r)) (fun it s' => codeAny (model prog w) A (.builtin "set.update.loop" ⟨[.ref S, it], []⟩) (fun res s'' => match res with | .ok (.ret _) => Q () s'' | .ok _ => False | .error e => E e s'') s') E s) :
    wpAny (model prog w) A (Builtin.Frozenset.updateFrom "set.__init__" S (.ref r)) Q E s := by
  unfold Builtin.Frozenset.updateFrom Builtin.Frozenset.isAnySet
  refine wpAny_bind ?_
  have h1 : wpAny (model prog w) A (isInstance (.ref r) (.type "set") <||> isInstance (.ref r) (.type "frozenset")) (fun b s' => b = false ∧ s' = s) E s := by
    show wpAny _ _ (do let b ← isInstance (.ref r) (.type "set"); match toBool b with | true => pure b | false => isInstance (.ref r) (.type "frozenset")) _ _ _
    refine wpAny_bind (wpAny_isInstance hT P.noSet ?_)
    exact wpAny_isInstance hT P.noFrozen ⟨rfl, rfl⟩
  refine wpAny_mono h1 ?_ fun _ _ z => z
  rintro b s' ⟨rfl, rfl⟩
  rw [if_neg Bool.false_ne_true]
  refine wpAny_bind (wpAny_typeOf hT ?_)
  rw [if_neg (by rw [P.noDict]; exact Bool.false_ne_true)]
  refine wpAny_bind (wpAny_mono h (fun it s' hi => ?_) fun _ _ z => z)
  refine wpAny_bind (wpAny_runValue (codeAny_mono hi fun res s'' hr => ?_))
  match res, hr with
  | .error e, hr => exact hr
  | .ok (.ret _), hr => exact wpAny_pure hr
  | .ok .next, hr => exact hr.elim
  | .ok .brk, hr => exact hr.elim
  | .ok .cont, hr => exact hr.elim

/-- set(list of ints) -/
theorem call_set_ints_range {r : Addr} {a b c : Int} {t u v : Tok} {n : Nat} {Q : Value → Shared → Prop} (hh : A.handled = none) (hr : IsRange s.heap r a b c t u v) (hsm : Builtin.Range.small a b c = true)
    (hn : Builtin.Range.rangeSize a b c = (n : Int)) (hb : n + 1 < scanBound)
    (h : ∀ (h' : Heap) (tk : Nat), h'.SetOf (intKind prog w) s.heap.objs.size (fun k' => (firstMet (fun i => a + i * c) n).any (· == k')) (firstMet (fun i => a + i * c) n).length →
      (∀ b o, s.heap.get? b = some o → h'.get? b = some o) → s.toks ≤ tk → Q (.ref s.heap.objs.size) { s with heap := h', toks := tk }) :
    wpAny (model prog w) A (call (.type "set") [.ref r]) Q E s := by
  refine call_set_open fun led => ?_
  have hr' : IsRange (s.heap.push (freshSet led)) r a b c t u v := Heap.get?_push_of_some _ hr
  have hS : (s.heap.push (freshSet led)).get? s.heap.objs.size = some (freshSet led) := Heap.get?_push_size _ rfl
  refine updateFrom_open (s := { s with heap := s.heap.push (freshSet led) }) ⟨_, hr', rfl⟩ source_range ?_
  refine wpAny_pyIter_range (s := { s with heap := s.heap.push (freshSet led) }) hr' hsm ?_
  have hlt : s.heap.objs.size < (s.heap.push (freshSet led)).objs.size := by rw [Heap.size_push]; exact Nat.lt_succ_self _
  have hSf : s.heap.objs.size ∉ [(s.heap.push (freshSet led)).objs.size] := by simp only [List.mem_singleton]; exact Nat.ne_of_lt hlt
  refine codeAny_set_update_loopS ((Walks.range (prog := prog) (w := w) (A := A.in1.in1.in1) hh (s.heap.push (freshSet led)).objs.size a c n).toS) s.heap.objs.size hSf (fun i => a + i * c) (fun i v hv => hv) hb n 0 _ (by omega) (Nat.zero_le _) ?st ?S0 ?R
  case st =>
    show IsRangeIter _ _ (a + ((0 : Nat) : Int) * c) ((n : Int) - ((0 : Nat) : Int)) c
    have := Heap.get?_push_size (s.heap.push (freshSet led)) (o := { cls := .type "range_iterator", data := .fields #[rawInt a, rawInt (Builtin.Range.rangeSize a b c), rawInt c] }) rfl
    rw [hn] at this ⊢
    simpa using this
  case S0 => exact SetOf_congr ((setObjOf_fresh (knd := intKind prog w) led).setOf (Heap.get?_push_of_some _ hS) (by unfold scanBound; omega)) (fun _ => rfl) rfl
  case R =>
    intro s' hm hS'
    obtain ⟨h', g', d', tk', os'⟩ := s'
    have eg : g' = s.gens := hm.gens
    have ed : d' = s.drawn := hm.drawn
    have eo : os' = s.os := hm.os
    have et : s.toks ≤ tk' := hm.toks
    subst eg; subst ed; subst eo
    refine h h' tk' hS' (fun b o e => hm.heap b o ?_ (Heap.get?_push_of_some _ (Heap.get?_push_of_some _ e))) et
    have := Heap.lt_size e
    simp only [List.mem_cons, List.not_mem_nil, or_false, not_or, Heap.size_push]
    exact ⟨Nat.ne_of_lt this, Nat.ne_of_lt (Nat.lt_succ_of_lt this)⟩
end
end Mine
namespace Mine
/-- a set object that holds, of the ints, just those of S -/
def IsHas (so : Obj) (S : Int → Bool) : Prop := (∃ es ep t, so = { cls := .type "set", data := .set es ep t }) ∧ ∃ n, n < scanBound ∧ so.IntSetOf S n
theorem IsHas.shape {so : Obj} {S : Int → Bool} (x : IsHas so S) : ∃ es ep t, so = { cls := .type "set", data := .set es ep t } := x.1
theorem IsHas.congr {so : Obj} {S S' : Int → Bool} (x : IsHas so S) (e : ∀ k, S k = S' k) : IsHas so S' := by
  have : S = S' := funext e
  subst this; exact x
section
variable {prog : Program} {w : World} {A : Around} {E : Value → Shared → Prop} {s : Shared} {h₀ : Heap} {L : Addr} {m : Str → Option Value} {news : List (Addr × Obj)}
theorem IsHas.setOf {so : Obj} {S : Int → Bool} {h : Heap} {a : Addr} (x : IsHas so S) (ho : h.get? a = some so) : ∃ n, h.SetOf (intKind prog w) a S n := by
  obtain ⟨_, n, hb, hi⟩ := x
  exact ⟨n, (hi prog w).setOf ho hb⟩
theorem isHas_of {S : Int → Bool} {n : Nat} {h : Heap} {a : Addr} (x : h.SetOf (intKind prog w) a S n) : ∃ so, h.get? a = some so ∧ IsHas so S := by
  have hb : n < scanBound := by obtain ⟨_, _, _, _, _, _, _, _, _, hb, _, hn⟩ := x; exact hn ▸ hb
  obtain ⟨so, ho, hs⟩ := x.objOf
  refine ⟨so, ho, ?_, n, hb, hs.intSetOf⟩
  obtain ⟨⟨h1, h2, h3⟩, es, ep, t, hd, _⟩ := hs
  obtain ⟨c, d, dt, sl⟩ := so
  simp only at h1 h2 h3 hd
  subst h1; subst h2; subst h3; subst hd
  exact ⟨es, ep, t, rfl⟩

theorem Fr_keeps {h' : Heap} (F : Fr h₀ L s.heap m) (hk : ∀ b o, s.heap.get? b = some o → h'.get? b = some o) : Fr h₀ L h' m := F.keeps hk
theorem News_keeps {h' : Heap} (N : News h₀ L s.heap news) (hk : ∀ b o, s.heap.get? b = some o → h'.get? b = some o) : News h₀ L h' news := fun p hp => ⟨hk _ _ (N p hp).1, (N p hp).2⟩
theorem News_new {h' : Heap} {a : Addr} {o : Obj} (F : Fr h₀ L s.heap m) (N : News h₀ L s.heap news) (hk : ∀ b o, s.heap.get? b = some o → h'.get? b = some o) (hge : s.heap.objs.size ≤ a) (ho : h'.get? a = some o) :
    News h₀ L h' ((a, o) :: news) := by
  intro p hp
  rcases List.mem_cons.mp hp with rfl | hp
  · refine ⟨ho, ?_, ?_⟩
    · obtain ⟨oL, _, _, hL, _⟩ := F.ns
      exact Nat.ne_of_gt (Nat.lt_of_lt_of_le (Heap.lt_size hL) hge)
    · cases hq : h₀.get? a with
      | none => rfl
      | some o' => exact absurd (Nat.lt_of_lt_of_le (Heap.lt_size (F.keep _ _ hq)) hge) (Nat.lt_irrefl _)
  · exact ⟨hk _ _ (N p hp).1, (N p hp).2⟩

theorem set_range_N {r : Addr} {a b c : Int} {t u v : Tok} {n : Nat} {Q : Value → Shared → Prop} (F : Fr h₀ L s.heap m) (N : News h₀ L s.heap news) (hh : A.handled = none) (hr : IsRange s.heap r a b c t u v)
    (hsm : Builtin.Range.small a b c = true) (hn : Builtin.Range.rangeSize a b c = (n : Int)) (hb : n + 1 < scanBound)
    (h : ∀ S so h' tk, Fr h₀ L h' m → News h₀ L h' ((S, so) :: news) → (∀ p ∈ news, p.1 < S) → IsHas so (fun k' => (firstMet (fun i => a + i * c) n).any (· == k')) → Q (.ref S) { s with heap := h', toks := tk }) :
    wpAny (model prog w) A (call (.type "set") [.ref r]) Q E s := by
  refine call_set_ints_range hh hr hsm hn hb fun h' tk hS hk _ => ?_
  obtain ⟨so, ho, hs⟩ := isHas_of hS
  exact h _ so h' tk (F.keeps hk) (News_new F N hk (Nat.le_refl _) ho) (fun p hp => Heap.lt_size (N p hp).1) hs

theorem getAttr_has_N {S : Addr} {so : Obj} {Sf : Int → Bool} {expr : Bool} {Q : Value → Shared → Prop} (F : Fr h₀ L s.heap m) (N : News h₀ L s.heap news) (hm : (S, so) ∈ news) (hs : IsHas so Sf)
    (h : ∀ b h', Fr h₀ L h' m → News h₀ L h' ((b, boundHas S) :: news) → (∀ p ∈ news, p.1 < b) → Q (.ref b) { s with heap := h', toks := s.toks + 1 }) :
    wpAny (model prog w) A (getAttr (.ref S) "__contains__" expr) Q E s := by
  obtain ⟨es, ep, t, rfl⟩ := hs.shape
  exact getAttr_set_has (N _ hm).1 (h _ _ (F.push _) (N.push F _) fun p hp => Heap.lt_size (N p hp).1)

/-- a thing that iter() hands back as it is -/
def SelfIter (prog : Program) (w : World) (v : Value) (h : Heap) : Prop :=
  ∀ (A : Around) (Q : Value → Shared → Prop) (E : Value → Shared → Prop) (s : Shared), A.depth + 8 < recursionLimit → A.units + 64 < cLine → (∀ b o, h.get? b = some o → s.heap.get? b = some o) →
    (∀ tk h', (∀ b o, s.heap.get? b = some o → h'.get? b = some o) → Q v { s with heap := h', toks := tk }) → wpAny (model prog w) A (pyIter v) Q E s
theorem SelfIter.keeps {v : Value} {h h' : Heap} (x : SelfIter prog w v h) (hk : ∀ b o, h.get? b = some o → h'.get? b = some o) : SelfIter prog w v h' :=
  fun A Q E s a b k q => x A Q E s a b (fun b o e => k b o (hk b o e)) q
theorem selfIter_listiter {it l : Addr} {i : Nat} {h : Heap} (hit : h.IsListIter it l i) : SelfIter prog w (.ref it) h :=
  fun A Q E s _ _ k q => wpAny_pyIter_listiter (hit.at fun o e => k _ _ e) (q s.toks s.heap fun _ _ e => e)

theorem args_iter1 (a : Value) : argsOk "iter" ⟨[a], []⟩ := by unfold argsOk; kernel_rfl
theorem entry_iter : entryFor table "iter" = some Builtin.«iter» := by first | exact entryFor_of_fast (by kernel_rfl) | exact entryFor_of_tree (by kernel_rfl)
theorem iter_open {v : Value} {Q : Value → Shared → Prop} (h : wpAny (model prog w) A.in1 (pyIter v) Q E s) : wpAny (model prog w) A (call (.builtin "iter") [v]) Q E s := by
  refine call_function_entry (by decide +kernel) (by decide +kernel) entry_iter (args_iter1 _) ?_
  unfold Builtin.«iter»
  refine wpAny_bind (m := someArgs "iter" 1 2 _) (wpAny_of_eq (a := [v]) (by first | rfl | kernel_rfl) ?_)
  dsimp only
  exact wpAny_bind (wpAny_mono h (fun r s' hr => wpAny_pure ⟨_, rfl, hr⟩) fun _ _ z => z)
theorem iter_self_N {v : Value} {Q : Value → Shared → Prop} (F : Fr h₀ L s.heap m) (N : News h₀ L s.heap news) (hv : SelfIter prog w v s.heap) (hd : A.depth + 8 < recursionLimit) (hu : A.units + 65 < cLine)
    (h : ∀ h' tk, Fr h₀ L h' m → News h₀ L h' news → Q v { s with heap := h', toks := tk }) : wpAny (model prog w) A (call (.builtin "iter") [v]) Q E s :=
  iter_open (hv A.in1 Q E s hd (by show A.units + 1 + 64 < cLine; omega) (fun _ _ e => e) fun tk h' hk => h h' tk (F.keeps hk) (News_keeps N hk))
theorem iter_list_N {l : Addr} {items : Array Value} {Q : Value → Shared → Prop} (F : Fr h₀ L s.heap m) (N : News h₀ L s.heap news) (hl : s.heap.IsList l items)
    (h : ∀ I h', Fr h₀ L h' m → News h₀ L h' ((I, { cls := .type "list_iterator", data := .fields #[.ref l, .int 0 0] }) :: news) → (∀ p ∈ news, p.1 < I) → Q (.ref I) { s with heap := h' }) : wpAny (model prog w) A (call (.builtin "iter") [.ref l]) Q E s :=
  iter_open (wpAny_pyIter_list hl (h _ _ (F.push _) (N.push F _) fun p hp => Heap.lt_size (N p hp).1))
end
end Mine
namespace Mine
section
variable {prog : Program} {w : World} {A : Around} {E : Value → Shared → Prop} {s : Shared}
theorem entry_next : entryFor table "next" = some Builtin.«next» := by first | exact entryFor_of_fast (by kernel_rfl) | exact entryFor_of_tree (by kernel_rfl)
theorem args_next1 (a : Value) : argsOk "next" ⟨[a], []⟩ := by unfold argsOk; kernel_rfl
theorem args_next2 (a b : Value) : argsOk "next" ⟨[a, b], []⟩ := by unfold argsOk; kernel_rfl
/-- a thing whose class has a __next__ -/
def HasNext (M : Model) (v : Value) (h : Heap) : Prop := ∃ g, Looks M h (specialOf v "__next__") (some g)
theorem hasNext_listiter {M : Model} {it l : Addr} {i : Nat} {h : Heap} (hit : h.IsListIter it l i) : HasNext M (.ref it) h :=
  ⟨_, fun A Q E s k q => wpAny_specialOf (name := "__next__") (T := "list_iterator") (by obtain ⟨o, ho, hc, _⟩ := hit; exact ⟨o, k _ _ ho, hc⟩) PySem.slot_listiter_next.lookup q⟩
theorem next_open1 {v : Value} {Q : Value → Shared → Prop} (hn : HasNext (model prog w) v s.heap) (h : wpAny (model prog w) A.in1 (callSpecial? v "__next__") (fun r s' => ∃ x, r = some x ∧ Q x s') E s) :
    wpAny (model prog w) A (call (.builtin "next") [v]) Q E s := by
  obtain ⟨g, hg⟩ := hn
  refine call_function_entry (by decide +kernel) (by decide +kernel) entry_next (args_next1 _) ?_
  unfold Builtin.«next»
  refine wpAny_bind (m := someArgs "next" 1 2 _) (wpAny_of_eq (a := [v]) (by first | rfl | kernel_rfl) ?_)
  dsimp only
  refine wpAny_bind (hg.here ?_)
  rw [if_neg (by simp)]
  refine wpAny_bind (wpAny_mono h (fun r s' hr => ?_) fun _ _ z => z)
  obtain ⟨x, rfl, hq⟩ := hr
  exact wpAny_pure ⟨_, rfl, hq⟩
theorem next_open2 {v d : Value} {Q : Value → Shared → Prop} (hn : HasNext (model prog w) v s.heap) (h : wpAny (model prog w) A.in1 (pyNext v) (fun r s' => Q (r.getD d) s') E s) :
    wpAny (model prog w) A (call (.builtin "next") [v, d]) Q E s := by
  obtain ⟨g, hg⟩ := hn
  refine call_function_entry (by decide +kernel) (by decide +kernel) entry_next (args_next2 _ _) ?_
  unfold Builtin.«next»
  refine wpAny_bind (m := someArgs "next" 1 2 _) (wpAny_of_eq (a := [v, d]) (by first | rfl | kernel_rfl) ?_)
  dsimp only
  refine wpAny_bind (hg.here ?_)
  rw [if_neg (by simp)]
  exact wpAny_bind (wpAny_mono h (fun r s' hr => wpAny_pure ⟨_, rfl, hr⟩) fun _ _ z => z)

/-- the list iterator's own __next__, an item -/
theorem listiter_item {it l : Addr} {i : Nat} {items : Array Value} {x : Value} {Q : Option Value → Shared → Prop} (hit : s.heap.IsListIter it l i) (hl : s.heap.IsList l items) (hx : items[i]? = some x)
    (hQ : ∀ h', h'.IsListIter it l (i + 1) → Heap.SameBut it s.heap h' → Q (some x) { s with heap := h' }) : wpAny (model prog w) A (callSpecial? (.ref it) "__next__") Q E s := by
  obtain ⟨o, ho, hc, hd⟩ := id hit
  obtain ⟨ol, hol, _, nl, hdl⟩ := hl
  refine wpAny_callSpecial?_slot (name := Str.ofString "__next__") hit.typeIs PySem.slot_listiter_next (wpAny_call_entry PySem.slot_listiter_next hit.typeIs PySem.entry_listiter_next ?_ (PySem.args_listiter_next _))
  show wpAny _ _ (field (.ref it) 0 >>= _) _ _ s
  refine wpAny_bind (wpAny_field ho hd (x := .ref l) rfl ?_)
  show wpAny _ _ (if (Value.ref l == Value.none) = true then _ else _) _ _ s
  rw [if_neg (show ¬ ((Value.ref l == Value.none) = true) from Bool.false_ne_true)]
  show wpAny _ _ (field (.ref it) 1 >>= _) _ _ s
  refine wpAny_bind (wpAny_field ho hd (x := .int i 0) rfl ?_)
  show wpAny _ _ (seqItems? (.ref l) >>= _) _ _ s
  refine wpAny_bind (wpAny_seqItems hol hdl ?_)
  simp only [Int.toNat_natCast, hx]
  refine wpAny_bind (wpAny_setField ho hd (by simp) (wpAny_pure ⟨x, rfl, hQ _ ?_ (Heap.SameBut.update ..)⟩))
  exact ⟨_, Heap.get?_update_self _ ho (Obj.isFreed_of_fields (Obj.data_mapFields hd _)), (Obj.cls_mapFields ..).trans hc, by rw [Obj.data_mapFields hd]; simp [rawInt]⟩

/-- a new exception object, that no frame has been noted upon -/
structure FreshExc (h₁ h' : Heap) (e : Addr) (X : String) : Prop where
  keeps : ∀ b o, h₁.get? b = some o → h'.get? b = some o
  new : h₁.get? e = none
  there : ∃ oe vs a0, h'.get? e = some oe ∧ oe.cls = .type X ∧ oe.data = .fields vs ∧ vs[1]? = some .none ∧ vs[0]? = some a0
theorem get_none_of_le {h : Heap} {a : Addr} (hge : h.objs.size ≤ a) : h.get? a = none := by
  cases e : h.get? a with
  | none => rfl
  | some o => exact absurd (Heap.lt_size e) (Nat.not_lt.mpr hge)
/-- the list iterator's own __next__ at its end: a new StopIteration -/
theorem listiter_end {it l : Addr} {i : Nat} {items : Array Value} {Q : Option Value → Shared → Prop} (hh : A.handled = none) (hit : s.heap.IsListIter it l i) (hl : s.heap.IsList l items) (hx : items[i]? = none)
    (hE : ∀ h₁ h' e, Heap.SameBut it s.heap h₁ → FreshExc h₁ h' e "StopIteration" → E (.ref e) { s with heap := h' }) : wpAny (model prog w) A (callSpecial? (.ref it) "__next__") Q E s := by
  obtain ⟨o, ho, hc, hd⟩ := id hit
  obtain ⟨ol, hol, _, nl, hdl⟩ := hl
  refine wpAny_callSpecial?_slot (name := Str.ofString "__next__") hit.typeIs PySem.slot_listiter_next (wpAny_call_entry PySem.slot_listiter_next hit.typeIs PySem.entry_listiter_next ?_ (PySem.args_listiter_next _))
  show wpAny _ _ (field (.ref it) 0 >>= _) _ _ s
  refine wpAny_bind (wpAny_field ho hd (x := .ref l) rfl ?_)
  show wpAny _ _ (if (Value.ref l == Value.none) = true then _ else _) _ _ s
  rw [if_neg (show ¬ ((Value.ref l == Value.none) = true) from Bool.false_ne_true)]
  show wpAny _ _ (field (.ref it) 1 >>= _) _ _ s
  refine wpAny_bind (wpAny_field ho hd (x := .int i 0) rfl ?_)
  show wpAny _ _ (seqItems? (.ref l) >>= _) _ _ s
  refine wpAny_bind (wpAny_seqItems hol hdl ?_)
  simp only [Int.toNat_natCast, hx]
  refine wpAny_bind (wpAny_rule (wpAny_bind (wpAny_setField ho hd (by simp) ?_)))
  show wpAny _ _ (newExc (.type "StopIteration") [] >>= _) _ _ _
  refine wpAny_bind ?_
  simp only [newExc, newTuple]
  refine wpAny_bind (wpAny_newObj_type ?_ (by size_fits))
  refine wpAny_bind (m := firstArgMember _ _) (wpAny_of_eq (a := Value.none) (by first | rfl | (simp only [firstArgMember]; rfl)) ?_)
  refine wpAny_newObj_type ?_ (by size_fits)
  simp only [raiseNew]
  refine wpAny_bind (wpAny_handled ?_)
  rw [show A.in1.handled = none from hh]
  refine wpAny_bind (wpAny_pure (wpAny_throw ?_))
  refine hE (s.heap.update it (Obj.mapFields fun x => x.setIfInBounds 0 Value.none)) _ _ (Heap.SameBut.update ..) ⟨fun b o' e => Heap.get?_push_of_some _ (Heap.get?_push_of_some _ e), ?_, ?_⟩
  · exact get_none_of_le (by rw [Heap.size_push]; exact Nat.le_succ _)
  · exact ⟨_, _, _, Heap.get?_push_size _ rfl, rfl, rfl, by simp [Array.getElem?_append], by simp [Array.getElem?_append]; rfl⟩
end
end Mine
namespace Mine
abbrev framesOf (fr : List Env) : List Addr := fr.filterMap (·.frame)
/-- from the heap h, at a call, to h', where the exception flies out of it: what stood is as it was, but for I and the frames' slots -/
structure Raised (fr : List Env) (h h' : Heap) (I e : Addr) (X : String) : Prop where
  slots : ∀ b o, b ∈ framesOf fr → h.get? b = some o → ∃ sl, h'.get? b = some { o with slots := sl }
  state : (∃ h₁, (∀ b o, b ≠ I → h.get? b = some o → h₁.get? b = some o) ∧ FreshExc h₁ h' e X) ∨
    (∃ B a0, (∀ b o, b ∉ framesOf fr → b ≠ I → h.get? b = some o → B.get? b = some o) ∧ Heap.FlyingW B fr e (.type X) a0 h')
theorem Raised.keeps {fr : List Env} {h h' : Heap} {I e : Addr} {X : String} (R : Raised fr h h' I e X) {b : Addr} {o : Obj} (hb : b ∉ framesOf fr) (hI : b ≠ I) (ho : h.get? b = some o) : h'.get? b = some o := by
  rcases R.state with ⟨h₁, k, F⟩ | ⟨B, a0, k, F⟩
  · exact F.keeps b o (k b o hI ho)
  · exact F.1 b o (k b o hb hI ho)
theorem Raised.isExc {fr : List Env} {h h' : Heap} {I e : Addr} {X : String} (R : Raised fr h h' I e X) : ∃ o, h'.get? e = some o ∧ o.cls = .type X := by
  rcases R.state with ⟨h₁, k, F⟩ | ⟨B, a0, k, F⟩
  · obtain ⟨oe, vs, a0, he, hc, _⟩ := F.there
    exact ⟨oe, he, hc⟩
  · exact F.there

section
variable {M : Model} {A : Around} {E : Value → Shared → Prop} {s' : Shared}
theorem Raised.leave {env : Env} {fr : List Env} {L I e : Addr} {h h₂ base₀ : Heap} {X : String} {m : Str → Option Value} {Q : Unit → Shared → Prop} {oI oI2 : Obj} {vI vI2 : Array Value}
    (hfr : A.frames = some (env :: fr)) (hf : env.frame = some L) (hk : env.scope.kind ≠ .module) (hl : h.FunFrames base₀ fr) (hI : h.get? I = some oI) (hId : oI.data = .fields vI) (hI2 : h₂.get? I = some oI2) (hId2 : oI2.data = .fields vI2)
    (hL : h.get? L = none) (hn : h₂.Ns L m) (h12 : ∀ b o, b ≠ I → h.get? b = some o → h₂.get? b = some o) (R : Raised (env :: fr) h₂ s'.heap I e X)
    (hQ : ∀ h'', Raised fr h h'' I e X → Q () { s' with heap := h'' }) : wpAny M A (leaving env (.ref e)) Q E s' := by
  have hLI : L ≠ I := by rintro rfl; rw [hL] at hI; cases hI
  have hmem : framesOf (env :: fr) = L :: framesOf fr := by show List.filterMap _ _ = _; rw [List.filterMap_cons, hf]
  have frI : ∀ b ∈ framesOf fr, b ≠ I := by
    rintro b hb rfl
    obtain ⟨_, o, ho, hnf⟩ := hl.mem hb
    rw [hI] at ho; cases ho
    exact hnf _ hId
  have frO : ∀ b ∈ framesOf fr, ∃ o, h.get? b = some o ∧ h₂.get? b = some o ∧ ∀ vs, o.data ≠ .fields vs := by
    intro b hb
    obtain ⟨_, o, ho, hnf⟩ := hl.mem hb
    exact ⟨o, ho, h12 b o (frI b hb) ho, hnf⟩
  have notL : ∀ b o, h.get? b = some o → b ≠ L := by rintro b o e rfl; rw [hL] at e; cases e
  rcases R.state with ⟨h₃, k3, F⟩ | ⟨B, a0, kB, F⟩
  · -- the exception is new here
    have hl₂ : h₂.FunFrames base₀ fr := hl.of_keeps fun b o hb hnf => ⟨o, h12 b o (by rintro rfl; rw [hI] at hb; cases hb; exact hnf _ hId) hb, rfl⟩
    obtain ⟨oL, esL, epL, hoL, hdL, _⟩ := id hn
    have hl₃ : h₃.FunFrames base₀ fr := hl₂.of_keeps fun b o hb hnf => by
      by_cases q : b = I
      · exfalso
        subst q
        rw [hI2] at hb; cases hb
        exact hnf _ hId2
      · exact ⟨o, k3 b o q hb, rfl⟩
    have hn₃ : h₃.Ns L m := hn.at' fun o e => k3 L o hLI e
    have hin : ∀ env' ∈ fr, ∀ a, env'.frame = some a → a ∈ framesOf (env :: fr) := fun env' he a ha => by
      rw [hmem]; exact List.mem_cons_of_mem _ (List.mem_filterMap.mpr ⟨env', he, ha⟩)
    have H₃ : h₃.FunFrames (hideAll h₃ (framesOf (env :: fr))) (env :: fr) :=
      Heap.FunFrames.cons hk hf hn₃ (hideAll_none _ (by rw [hmem]; exact List.mem_cons_self)) (by
        have hh : ∀ (l : List Env), h₃.FunFrames base₀ l → (∀ env' ∈ l, ∀ a, env'.frame = some a → a ∈ framesOf (env :: fr)) → h₃.FunFrames (hideAll h₃ (framesOf (env :: fr))) l := fun l => funFrames_hide
        exact hh fr hl₃ hin)
    have H' := H₃.of_keeps fun b o hb _ => ⟨o, F.keeps b o hb, rfl⟩
    obtain ⟨oe, vs, a0, he, hc, hd, h1, h0⟩ := F.there
    have hen : (hideAll h₃ (framesOf (env :: fr))).get? e = none := by
      cases q : (hideAll h₃ (framesOf (env :: fr))).get? e with
      | none => rfl
      | some o => have := of_hideAll _ q; rw [F.new] at this; cases this
    refine wpAny_leaving_firstW hfr H' hf he (fun b o q => F.keeps b o (of_hideAll _ q)) hen hd h1 h0 fun h'' hLW => ?_
    obtain ⟨w1, ⟨_, _, w2⟩, w3, w4⟩ := hLW
    refine hQ h'' ⟨?_, .inr ⟨hideAll h₃ (framesOf (env :: fr)), a0, ?_, w1, hen, w2, by rw [← hc]; exact w3⟩⟩
    · intro b o hb ho
      obtain ⟨o', ho', ho2, hnf⟩ := frO b hb
      rw [ho] at ho'; cases ho'
      exact w4 b o (F.keeps b o (k3 b o (frI b hb) ho2)) hnf
    · intro b o hb hbI ho
      exact hideAll_get _ (k3 b o hbI (h12 b o hbI ho)) (by rw [hmem]; exact fun q => (List.mem_cons.mp q).elim (notL b o ho) hb)
  · -- it has been noted by an inner frame
    refine wpAny_leaves_onW hfr hf F fun h'' hfl hup => hQ h'' ⟨?_, .inr ⟨B, a0, ?_, hfl⟩⟩
    · intro b o hb ho
      obtain ⟨o', ho', ho2, hnf⟩ := frO b hb
      rw [ho] at ho'; cases ho'
      obtain ⟨sl, hs⟩ := R.slots b o (by rw [hmem]; exact List.mem_cons_of_mem _ hb) ho2
      obtain ⟨sl', hs'⟩ := hup b _ hs (by intro vs; exact hnf vs)
      exact ⟨sl', hs'⟩
    · intro b o hb hbI ho
      exact kB b o (by rw [hmem]; exact fun q => (List.mem_cons.mp q).elim (notL b o ho) hb) hbI (h12 b o hbI ho)
end
end Mine
namespace Mine
noncomputable abbrev KF (w : World) : Frag := hd.heap_39 w.params
abbrev PP : Program := PySem.Challenge.rw_kn0115_01.row.prog
abbrev ffObj (dx : Addr) (it : Value) (b : Addr) : Obj := { cls := .ref 47, dict := some dx, data := .plain, slots := #[some (.ref b), some it] }
def ChainAt (h : Heap) (I : Addr) : List (Int → Bool) → Value → Prop
  | [], v => v = .ref I
  | Sf :: r, v => ∃ x dx b S so it, v = .ref x ∧ h.get? x = some (ffObj dx it b) ∧ h.get? dx = some (dictOf [] 0) ∧ h.get? b = some (boundHas S) ∧ h.get? S = some so ∧ IsHas so Sf ∧ ChainAt h I r it
theorem ChainAt.move {h h' : Heap} {I : Addr} {oI : Obj} (hI : h.get? I = some oI) (hc : oI.cls = .type "list_iterator") (k : ∀ b o, b ≠ I → h.get? b = some o → h'.get? b = some o) :
    ∀ {fs : List (Int → Bool)} {v : Value}, ChainAt h I fs v → ChainAt h' I fs v
  | [], _, e => e
  | _ :: _, _, ⟨x, dx, b, S, so, it, e, h1, h2, h3, h4, h5, h6⟩ => by
    have ne : ∀ {a : Addr} {o : Obj}, h.get? a = some o → o.cls ≠ .type "list_iterator" → a ≠ I := by
      rintro a o ho hne rfl
      rw [hI] at ho; cases ho
      exact hne hc
    obtain ⟨es, ep, t, rfl⟩ := h5.shape
    exact ⟨x, dx, b, S, _, it, e, k _ _ (ne h1 (by simp)) h1, k _ _ (ne h2 (by simp)) h2, k _ _ (ne h3 (by simp)) h3, k _ _ (ne h4 (by simp)) h4, h5, h6.move hI hc k⟩
theorem ffInst {h : Heap} {x dx : Addr} {it : Value} {b : Addr} (h1 : h.get? x = some (ffObj dx it b)) (h2 : h.get? dx = some (dictOf [] 0)) : InstAt h x (ffObj dx it b) 47 (some (dictOf [] 0)) := ⟨h1, rfl, rfl, h2⟩
section
variable {w : World} {A : Around} {E : Value → Shared → Prop} {s : Shared} {p : Program} {loose : List Str} {mg mb : Str → Option Value}

theorem get_func {x dx b : Addr} {it : Value} {expr : Bool} {Q : Value → Shared → Prop} (hX : (KF w).In s.heap) (h1 : s.heap.get? x = some (ffObj dx it b)) (h2 : s.heap.get? dx = some (dictOf [] 0)) (h : Q (.ref b) { s with toks := s.toks + 1 }) :
    wpAny (model PP w) A (getAttr (.ref x) "_func" expr) Q E s :=
  get_bind hX (ffInst h1 h2) (plainGet_of (name := "_it") (by kernel_rfl)).1 (findObj_data (a := .ref 48) (g := .builtin "member_descriptor.__get__") (by kernel_rfl) (by kernel_rfl) (by kernel_rfl) (by kernel_rfl)) (plainGet_of (name := "_func") (by kernel_rfl)).2
    (wpAny_call (slot_get (s := { s with toks := s.toks + 1 }) (i := 0) hX (ffInst h1 h2) (by kernel_rfl) rfl (handed_on rfl h)))
theorem get_it {x dx b : Addr} {it : Value} {expr : Bool} {Q : Value → Shared → Prop} (hX : (KF w).In s.heap) (h1 : s.heap.get? x = some (ffObj dx it b)) (h2 : s.heap.get? dx = some (dictOf [] 0)) (hi : handedIn it = true) (h : Q it { s with toks := s.toks + 1 }) :
    wpAny (model PP w) A (getAttr (.ref x) "_it" expr) Q E s :=
  get_bind hX (ffInst h1 h2) (plainGet_of (name := "_it") (by kernel_rfl)).1 (findObj_data (a := .ref 49) (g := .builtin "member_descriptor.__get__") (by kernel_rfl) (by kernel_rfl) (by kernel_rfl) (by kernel_rfl)) (plainGet_of (name := "_it") (by kernel_rfl)).2
    (wpAny_call (slot_get (s := { s with toks := s.toks + 1 }) (i := 1) hX (ffInst h1 h2) (by kernel_rfl) rfl (handed_on hi h)))
theorem next_name {env : Env} {pos : Pos} {Q : Value → Shared → Prop} (hX : (KF w).In s.heap) (T : TopRead p loose mg mb s.heap) (hk : env.scope.kind = .function) (hx : env.kindOf "next" = some .globalImplicit) (hg : env.globals = mainGlobals) (hb : env.builtins = builtinsNs) (h : Q (.builtin "next") s) :
    wpAny (model PP w) A (eval (.Name "next" pos) env) Q E s :=
  Name_function_global hk hx (loadGlobal_builtin (hg ▸ T.g) (mg_none_of hX T.g (by kernel_rfl)) (hb ▸ T.b) ((T.builtins _ (by decide)).trans (by boot_by_name)) h) (by decide)
theorem bool_name {env : Env} {pos : Pos} {Q : Value → Shared → Prop} (hX : (KF w).In s.heap) (T : TopRead p loose mg mb s.heap) (hk : env.scope.kind = .function) (hx : env.kindOf "bool" = some .globalImplicit) (hg : env.globals = mainGlobals) (hb : env.builtins = builtinsNs) (h : Q (.type "bool") s) :
    wpAny (model PP w) A (eval (.Name "bool" pos) env) Q E s :=
  Name_function_global hk hx (loadGlobal_builtin (hg ▸ T.g) (mg_none_of hX T.g (by kernel_rfl)) (hb ▸ T.b) ((T.builtins _ (by decide)).trans (by boot_by_name)) h) (by decide)
end
end Mine
namespace Mine
section
variable {w : World} {A : Around} {E : Value → Shared → Prop} {s : Shared} {p : Program} {loose : List Str} {mg mb : Str → Option Value}

/-- no filter of the chain takes a out -/
def Passes (fs : List (Int → Bool)) (a : Int) : Prop := ∀ f ∈ fs, f a = false
def valAt (items : Array Value) (j : Nat) : Int := match items[j]? with
  | some (.int a _) => a
  | _ => 0
/-- what the call of __next__ is to show: the first item from i on that passes, or none and the end -/
structure NextOk (fs : List (Int → Bool)) (items : Array Value) (I l : Addr) (i : Nat) (fr : List Env) (Q : Option Value → Shared → Prop) (E : Value → Shared → Prop) (s : Shared) : Prop where
  ok : ∀ j a t h' tk, i ≤ j → items[j]? = some (.int a t) → Passes fs a → (∀ k, i ≤ k → k < j → ¬ Passes fs (valAt items k)) → h'.IsListIter I l (j + 1) → (∀ b o, b ≠ I → s.heap.get? b = some o → h'.get? b = some o) →
    Q (some (.int a t)) { s with heap := h', toks := tk }
  stop : ∀ e h' tk, (∀ k, i ≤ k → k < items.size → ¬ Passes fs (valAt items k)) → Raised fr s.heap h' I e "StopIteration" → E (.ref e) { s with heap := h', toks := tk }

def AllInt (items : Array Value) : Prop := ∀ (j : Nat) (v : Value), items[j]? = some v → ∃ a t, v = Value.int a t

theorem callWith_bm1 {M : Model} {pos : Pos} {u S : Addr} {e : PySem.Expr} {rest : List PySem.Expr} {env : Env} {Q : Value → Shared → Prop}
    (h : wpAny M A (spliced (backTo pos (starEach (e :: rest) env))) (fun vs s₁ => s₁.heap.get? u = some (boundHas S) ∧ wpAny M A (call (.ref u) vs) Q E s₁) E s)
    (he : starEach (e :: rest) env = (false, eval e env) :: starEach rest env := by rfl) (hplain : (backTo pos (starEach rest env)).any (·.1) = false := by rfl) :
    wpAny M A (callWith pos (.ref u) [] (backTo pos (starEach (e :: rest) env)) []) Q E s := by
  rw [he] at h ⊢
  exact callWith_bm (by show (false || (backTo pos (starEach rest env)).any (·.1)) = false; rw [hplain]; rfl) (evalArgs_plain h)

theorem next_chain {I l : Addr} {items : Array Value} {h₀ : Heap} (hall : AllInt items) (hX₀ : (KF w).In h₀) (T₀ : TopRead p loose mg mb h₀) (hI₀ : h₀.get? I = none) : ∀ (fs : List (Int → Bool)) {v : Value} {A : Around} {fr : List Env} {i : Nat} {Q : Option Value → Shared → Prop} {E : Value → Shared → Prop} {s : Shared},
    (∀ b o, h₀.get? b = some o → s.heap.get? b = some o) → A.frames = some fr → s.heap.FunFrames {} fr → A.handled = none → A.depth + fs.length + 2 < recursionLimit →
    s.heap.IsListIter I l i → s.heap.IsList l items → ChainAt s.heap I fs v → NextOk fs items I l i fr Q E s → wpAny (model PP w) A (callSpecial? v "__next__") Q E s
  | [], v, A, fr, i, Q, E, s, hk₀, hfr, hfun, hh, hd, hit, hl, hc, hQ => by
    cases hc
    cases hx : items[i]? with
    | some v =>
      obtain ⟨a, t, rfl⟩ := hall i v hx
      refine listiter_item hit hl hx fun h' hit' hs => ?_
      exact hQ.ok i a t h' s.toks (Nat.le_refl _) hx (fun f hf => nomatch hf) (fun k h1 h2 => absurd h2 (Nat.not_lt.mpr h1)) hit' fun b o hb e => hs.extBut b o hb e
    | none =>
      refine listiter_end hh hit hl hx fun h₁ h' e hs hF => ?_
      refine hQ.stop e h' s.toks (fun k h1 h2 => ?_) ⟨fun b o hb ho => ?_, .inl ⟨h₁, fun b o hb e => hs.extBut b o hb e, hF⟩⟩
      · have : items.size ≤ i := by simpa using hx
        omega
      · obtain ⟨oI, hoI, _, hdI⟩ := hit
        obtain ⟨_, o', ho', hnf⟩ := hfun.mem hb
        have hbI : b ≠ I := by
          rintro rfl
          rw [hoI] at ho'; cases ho'
          exact hnf _ hdI
        exact ⟨o.slots, hF.keeps b o (hs.extBut b o hbI ho)⟩
  | Sf :: r, v, A, fr, i, Q, E, s, hk₀, hfr, hfun, hh, hd, hit, hl, hc, hQ => by
    obtain ⟨x, dx, b, S, so, it, rfl, h1, h2, h3, h4, h5, h6⟩ := hc
    have hX := hX₀.keeps hk₀
    have T := T₀.keeps hk₀
    have hf := hX 43 _ (rfl : (KF w).lookup 43 = some _)
    refine special_fn (f := 43) hX (ffInst h1 h2) (by kernel_rfl) (by kernel_rfl) ?_
    refine wpAny_call (codeAny_call_def (binds := [(("self" : Str), .ref x)]) (by omega) hf rfl T.nolimit (codeRec_of hX (by kernel_rfl)) rfl (BindsTo.of_eq rfl) (by decide) (locs rfl) ?_ rfl rfl rfl)
    intro h₁ hns hk
    dsimp only
    have hLn : s.heap.get? s.heap.objs.size = none := get_none_of_le (Nat.le_refl _)
    generalize s.heap.objs.size = L at hns hLn ⊢
    refine wpAny_execs_cons (wpAny_Assign_Name (Attribute_name ?_))
    refine wpAny_Name (wpAny_loadName_local rfl rfl hns (v := .ref x) rfl ?_)
    refine get_func (fun a o e => hk _ _ (hX a o e)) (hk _ _ h1) (hk _ _ h2) ?_
    refine wpAny_storeName_local rfl hns (fun h₂ hns₂ hs₂ => ?_) rfl
    dsimp only
    obtain ⟨oI, hoI, hcI, hdI⟩ := id hit
    obtain ⟨ol, hol, hcl, nl, hdl⟩ := id hl
    have hlI : l ≠ I := by rintro rfl; rw [hoI] at hol; cases hol; rw [hcI] at hcl; simp at hcl
    have notL : ∀ b o, s.heap.get? b = some o → b ≠ L := by rintro b o e rfl; rw [hLn] at e; cases e
    have k2 : ∀ b o, s.heap.get? b = some o → h₂.get? b = some o := fun b o e => hs₂.extBut b o (notL b o e) (hk b o e)
    refine wpAny_execs_cons (wpAny_While (codeAny_whileLoop (fun k s' => ∃ h' tk m' j, s' = { s with heap := h', toks := tk } ∧ h'.Ns L m' ∧ m' "self" = some (.ref x) ∧ m' "func" = some (.ref b) ∧ i ≤ j ∧ k = items.size - j ∧
      h'.IsListIter I l j ∧ (∀ b o, b ≠ I → s.heap.get? b = some o → h'.get? b = some o) ∧ (∀ n, i ≤ n → n < j → ¬ Passes (Sf :: r) (valAt items n))) ?turn (items.size - i)
      ⟨h₂, _, _, i, rfl, hns₂, rfl, rfl, Nat.le_refl _, rfl, hit.at fun o e => k2 I o e, fun b o _ e => k2 b o e, fun n h1 h2 => absurd h2 (Nat.not_lt.mpr h1)⟩))
    rintro k s' ⟨h', tk, m', j, rfl, hn, hm1, hm2, hij, rfl, hitj, hkj, hbj⟩
    refine wpAny_passesOwn PassesOwn.leaving (isTrue_plain (wpAny_Constant_bool (wpAny_truthy_bool ?_)))
    rw [if_pos rfl]
    refine wpAny_passesOwn PassesOwn.leaving (wpAny_execs_cons (wpAny_Assign_Name (Call_ ?_)))
    have hne : ∀ {a : Addr} {o : Obj}, s.heap.get? a = some o → o.cls ≠ .type "list_iterator" → a ≠ I := by
      rintro a o ho hne rfl
      rw [hoI] at ho; cases ho
      exact hne hcI
    have kk : ∀ {h'' : Heap}, (∀ b o, b ≠ I → s.heap.get? b = some o → h''.get? b = some o) → ∀ b o, h₀.get? b = some o → h''.get? b = some o := fun k b o e => k b o (by rintro rfl; rw [hI₀] at e; cases e) (hk₀ b o e)
    refine next_name (hX₀.keeps (kk hkj)) (T₀.keeps (kk hkj)) rfl rfl rfl rfl ?_
    refine PyProof.Rows.callWith_builtin1 ?_
    refine args_cons (Attribute_name (wpAny_Name (wpAny_loadName_local rfl rfl hn hm1 ?_)))
    refine get_it (hX₀.keeps (kk hkj)) (hkj _ _ (hne h1 (by simp)) h1) (hkj _ _ (hne h2 (by simp)) h2) ?_ ?_
    · cases r with
      | nil => cases h6; rfl
      | cons f r' => obtain ⟨_, _, _, _, _, _, rfl, _⟩ := h6; rfl
    refine args_nil ?_
    have hitT : h'.IsListIter I l j := hitj
    have h6' : ChainAt h' I r it := h6.move hoI hcI hkj
    have hnx : HasNext (model PP w) it h' := by
      cases r with
      | nil => cases h6; exact hasNext_listiter hitj
      | cons f r' =>
        obtain ⟨x', dx', b', S', so', it', rfl, g1, g2, _⟩ := h6'
        exact ⟨_, (ffInst g1 g2).type.andThen (looks_findIn (r := some (.ref 43)) (hX₀.keeps (kk hkj)) (by kernel_rfl))⟩
    refine next_open1 hnx ?_
    refine next_chain hall hX₀ T₀ hI₀ r (fr := _ :: fr) (i := j) (kk hkj) (by rw [Around.in1_frames]; exact Around.frames_deeper hfr) (.cons (by show ScopeKind.function ≠ ScopeKind.module; decide) rfl hn (get_none_of_le (Nat.zero_le _)) ?_) hh (by simp only [List.length_cons] at hd; show A.depth + 1 + r.length + 2 < recursionLimit; omega) hitj ?_ h6' ⟨?ok, ?stop⟩
    case ok =>
      intro j2 a t h'' tk2 hj2 hx hp hb2 hit2 hk2
      have hk02 : ∀ b o, b ≠ I → s.heap.get? b = some o → h''.get? b = some o := fun b o q e => hk2 b o q (hkj b o q e)
      have hn2 : h''.Ns L m' := hn.at' fun o e => hk2 L o (by rintro rfl; rw [hLn] at hoI; cases hoI) e
      refine ⟨_, rfl, wpAny_storeName_local rfl hn2 (fun h₃ hn₃ hs₃ => ?_) rfl⟩
      dsimp only
      have hk03 : ∀ b o, b ≠ I → s.heap.get? b = some o → h₃.get? b = some o := fun b o q e => hs₃.extBut b o (notL b o e) (hk02 b o q e)
      have hm1' : (fun y => if y = ("item" : Str) then some (Value.int a t) else m' y) "self" = some (.ref x) := by show (if ("self" : Str) = "item" then _ else _) = _; rw [if_neg (by decide)]; exact hm1
      have hm2' : (fun y => if y = ("item" : Str) then some (Value.int a t) else m' y) "func" = some (.ref b) := by show (if ("func" : Str) = "item" then _ else _) = _; rw [if_neg (by decide)]; exact hm2
      have hm3' : (fun y => if y = ("item" : Str) then some (Value.int a t) else m' y) "item" = some (Value.int a t) := by show (if ("item" : Str) = "item" then _ else _) = _; rw [if_pos rfl]
      refine wpAny_execs_cons (wpAny_If (isTrue_or (wpAny_isTrue_Compare1 (wpAny_Name (wpAny_loadName_local rfl rfl hn₃ hm2' (wpAny_Constant_none (wpAny_is_other (by rfl) (by simp) (wpAny_truthy_bool ?_))))))))
      rw [if_neg Bool.false_ne_true]
      refine isTrue_or (wpAny_isTrue_Compare1 (wpAny_Name (wpAny_loadName_local rfl rfl hn₃ hm2' (bool_name (hX₀.keeps (kk hk03)) (T₀.keeps (kk hk03)) rfl rfl rfl rfl (wpAny_is_other (by rfl) (by simp) (wpAny_truthy_bool ?_))))))
      rw [if_neg Bool.false_ne_true]
      refine isTrue_or_nil ?_
      rw [if_neg Bool.false_ne_true]
      refine wpAny_execs_cons (wpAny_If (isTrue_not (isTrue_plain (Call_ (wpAny_Name (wpAny_loadName_local rfl rfl hn₃ hm2' ?_))))))
      refine callWith_bm1 (S := S) (args_cons (wpAny_Name (wpAny_loadName_local rfl rfl hn₃ hm3' (args_nil ⟨hk03 _ _ (hne h3 (by simp)) h3, ?_⟩))))
      obtain ⟨nS, hSet⟩ := IsHas.setOf (prog := PP) (w := w) h5 (hk03 _ _ (hne h4 (by obtain ⟨_, _, _, rfl⟩ := h5.shape; simp)) h4)
      refine call_has (knd := intKind PP w) (k := a) (hk03 _ _ (hne h3 (by simp)) h3) (intKind_is _ _ _ _) rfl hSet ?_
      refine wpAny_truthy_bool ?_
      have hva : valAt items j2 = a := by unfold valAt; rw [hx]
      have hbig : ∀ n, i ≤ n → n < j2 → ¬ Passes (Sf :: r) (valAt items n) := fun n h1 h2 q => by
        by_cases hnj : n < j
        · exact hbj n h1 hnj q
        · exact hb2 n (by omega) h2 fun f hf => q f (List.mem_cons_of_mem _ hf)
      have hsz : j2 < items.size := (Array.getElem?_eq_some_iff.mp hx).1
      have hitj3 : h₃.IsListIter I l (j2 + 1) := hit2.at fun o e => hs₃.extBut I o (notL I _ hoI) e
      cases hSa : Sf a with
      | false =>
        rw [if_pos (by rfl)]
        refine wpAny_execs_cons (wpAny_Return_some (wpAny_Name (wpAny_loadName_local rfl rfl hn₃ hm3' ?_)))
        dsimp only
        exact hQ.ok j2 a t h₃ _ (by omega) hx (fun f hf => (List.mem_cons.mp hf).elim (fun e => e ▸ hSa) (hp f)) hbig hitj3 hk03
      | true =>
        rw [if_neg (by simp)]
        refine wpAny_execs_nil ?_
        dsimp only
        refine wpAny_execs_nil ?_
        dsimp only
        refine wpAny_execs_nil ?_
        dsimp only
        refine ⟨items.size - (j2 + 1), by omega, h₃, _, _, j2 + 1, rfl, hn₃, hm1', hm2', by omega, rfl, hitj3, hk03, fun n h1 h2 q => ?_⟩
        by_cases hnj : n = j2
        · subst hnj
          have := q Sf List.mem_cons_self
          rw [hva, hSa] at this; cases this
        · exact hbig n h1 (by omega) q
    case stop =>
      intro e h'' tk2 hb2 R
      obtain ⟨oI2, hoI2, _, hdI2⟩ := id hitj
      refine R.leave (s' := { s with heap := h'', toks := tk2 }) (Around.frames_deeper hfr) rfl (by show ScopeKind.function ≠ ScopeKind.module; decide) hfun hoI hdI hoI2 hdI2 hLn hn hkj fun h3 R3 => ?_
      refine hQ.stop e h3 tk2 (fun n h1 h2 q => ?_) R3
      by_cases hnj : n < j
      · exact hbj n h1 hnj q
      · exact hb2 n (by omega) h2 fun f hf => q f (List.mem_cons_of_mem _ hf)
    · exact hfun.of_keeps fun b o hb hnf => ⟨o, hkj b o (by rintro rfl; rw [hoI] at hb; cases hb; exact hnf _ hdI) hb, rfl⟩
    · exact hl.at fun o e => hkj l o hlI e
end
end Mine
namespace Mine
/-- the list iterator's object: it stands at i of l -/
def IsLI (o : Obj) (l : Addr) (i : Nat) : Prop := o.cls = .type "list_iterator" ∧ o.data = .fields #[.ref l, .int i 0]
theorem IsLI.at {h : Heap} {I l : Addr} {o : Obj} {i : Nat} (x : IsLI o l i) (ho : h.get? I = some o) : h.IsListIter I l i := ⟨o, ho, x.1, x.2⟩
/-- the chain's objects stand in the ledger -/
def ChainIn (news : List (Addr × Obj)) (I : Addr) : List (Int → Bool) → Value → Prop
  | [], v => v = .ref I
  | Sf :: r, v => ∃ x dx b S so it, v = .ref x ∧ (x, ffObj dx it b) ∈ news ∧ (dx, dictOf [] 0) ∈ news ∧ (b, boundHas S) ∈ news ∧ (S, so) ∈ news ∧ IsHas so Sf ∧ ChainIn news I r it
theorem ChainIn.mono {news news' : List (Addr × Obj)} {I : Addr} (k : ∀ p ∈ news, p ∈ news') : ∀ {fs : List (Int → Bool)} {v : Value}, ChainIn news I fs v → ChainIn news' I fs v
  | [], _, e => e
  | _ :: _, _, ⟨x, dx, b, S, so, it, e, h1, h2, h3, h4, h5, h6⟩ => ⟨x, dx, b, S, so, it, e, k _ h1, k _ h2, k _ h3, k _ h4, h5, h6.mono k⟩
theorem ChainIn.at {news : List (Addr × Obj)} {I : Addr} {h : Heap} (k : ∀ p ∈ news, h.get? p.1 = some p.2) : ∀ {fs : List (Int → Bool)} {v : Value}, ChainIn news I fs v → ChainAt h I fs v
  | [], _, e => e
  | _ :: _, _, ⟨x, dx, b, S, so, it, e, h1, h2, h3, h4, h5, h6⟩ => ⟨x, dx, b, S, so, it, e, k _ h1, k _ h2, k _ h3, k _ h4, h5, h6.at k⟩
theorem ChainAt.hasNext {w : World} {h : Heap} {I l : Addr} {i : Nat} (hX : (KF w).In h) (hit : h.IsListIter I l i) : ∀ {fs : List (Int → Bool)} {v : Value}, ChainAt h I fs v → HasNext (model PP w) v h
  | [], _, e => by cases e; exact hasNext_listiter hit
  | _ :: _, _, ⟨x, dx, b, S, so, it, e, h1, h2, _⟩ => by subst e; exact ⟨_, (ffInst h1 h2).type.andThen (looks_findIn (r := some (.ref 43)) hX (by kernel_rfl))⟩

section
variable {w : World} {A : Around} {E : Value → Shared → Prop} {s : Shared} {p : Program} {loose : List Str} {mg mb : Str → Option Value} {h₀ : Heap} {L : Addr} {m : Str → Option Value} {news own : List (Addr × Obj)}

theorem pyNext_chain {I l : Addr} {items : Array Value} {fs : List (Int → Bool)} {v : Value} {fr : List Env} {i : Nat} {Q : Option Value → Shared → Prop} (hall : AllInt items) (hX₀ : (KF w).In h₀) (T₀ : TopRead p loose mg mb h₀) (hI₀ : h₀.get? I = none)
    (hk₀ : ∀ b o, h₀.get? b = some o → s.heap.get? b = some o) (hfr : A.frames = some fr) (hfun : s.heap.FunFrames {} fr) (hh : A.handled = none) (hd : A.depth + fs.length + 2 < recursionLimit)
    (hit : s.heap.IsListIter I l i) (hl : s.heap.IsList l items) (hc : ChainAt s.heap I fs v)
    (ok : ∀ j a t h' tk, i ≤ j → items[j]? = some (.int a t) → Passes fs a → (∀ k, i ≤ k → k < j → ¬ Passes fs (valAt items k)) → h'.IsListIter I l (j + 1) → (∀ b o, b ≠ I → s.heap.get? b = some o → h'.get? b = some o) → Q (some (.int a t)) { s with heap := h', toks := tk })
    (stop : ∀ e h' tk, (∀ k, i ≤ k → k < items.size → ¬ Passes fs (valAt items k)) → Raised fr s.heap h' I e "StopIteration" → Q none { s with heap := h', toks := tk }) :
    wpAny (model PP w) A (pyNext v) Q E s := by
  unfold pyNext
  refine wpAny_bind (wpAny_attempt (next_chain hall hX₀ T₀ hI₀ fs hk₀ hfr hfun hh hd hit hl hc ⟨?_, ?_⟩))
  · intro j a t h' tk h1 h2 h3 h4 h5 h6
    exact wpAny_pure (ok j a t h' tk h1 h2 h3 h4 h5 h6)
  · intro e h' tk h1 R
    refine wpAny_bind (wpAny_isInstance (T := "StopIteration") (b := true) (s := { s with heap := h', toks := tk }) R.isExc PySem.isSubtype_stop ?_)
    exact wpAny_pure (stop e h' tk h1 R)

theorem Fr.raised {env : Env} {h' : Heap} {I e : Addr} {X : String} (F : Fr h₀ L s.heap m) (hf : env.frame = some L) (hI₀ : h₀.get? I = none) (R : Raised [env] s.heap h' I e X) : Fr h₀ L h' m := by
  obtain ⟨oL, es, ep, hL, hd, r⟩ := F.ns
  obtain ⟨sl, hs⟩ := R.slots L oL (by simp [framesOf, hf]) hL
  refine ⟨⟨_, es, ep, hs, hd, r⟩, fun b o e => ?_, F.above⟩
  refine R.keeps ?_ (by rintro rfl; rw [hI₀] at e; cases e) (F.keep b o e)
  simp only [framesOf, List.filterMap_cons, hf, List.filterMap_nil, List.mem_singleton]
  exact Nat.ne_of_lt (Nat.lt_of_lt_of_le (Heap.lt_size e) F.above)

/-- next(chain, default), in a frame that nothing stands around; the ledger has the iterator's object at its head -/
theorem next2_N {I l : Addr} {oI : Obj} {items : Array Value} {fs : List (Int → Bool)} {v d : Value} {env : Env} {i : Nat} {Q : Value → Shared → Prop} (hall : AllInt items) (F : Fr h₀ L s.heap m) (N : News h₀ L s.heap ((I, oI) :: news)) (hX₀ : (KF w).In h₀) (T₀ : TopRead p loose mg mb h₀)
    (hA : A.frames = some [env]) (hf : env.frame = some L) (hk : env.scope.kind ≠ .module) (hh : A.handled = none) (hd : A.depth + fs.length + 2 < recursionLimit)
    (hI : IsLI oI l i) (hl : s.heap.IsList l items) (hc : ChainIn ((I, oI) :: news) I fs v) (off : ∀ q ∈ news, q.1 ≠ I)
    (ok : ∀ j a t h' tk oI', i ≤ j → items[j]? = some (.int a t) → Passes fs a → (∀ k, i ≤ k → k < j → ¬ Passes fs (valAt items k)) → IsLI oI' l (j + 1) → Fr h₀ L h' m → News h₀ L h' ((I, oI') :: news) → Q (.int a t) { s with heap := h', toks := tk })
    (stop : ∀ h' tk, (∀ k, i ≤ k → k < items.size → ¬ Passes fs (valAt items k)) → Fr h₀ L h' m → News h₀ L h' news → Q d { s with heap := h', toks := tk }) :
    wpAny (model PP w) A (call (.builtin "next") [v, d]) Q E s := by
  have hmI := N _ List.mem_cons_self
  have hcA := hc.at fun q hq => (N q hq).1
  have hit := hI.at hmI.1
  have hLI : L ≠ I := Ne.symm hmI.2.1
  have hnotI : ∀ b o, h₀.get? b = some o → b ≠ I := by rintro b o e rfl; rw [hmI.2.2] at e; cases e
  refine next_open2 (hcA.hasNext (hX₀.keeps F.keep) hit) ?_
  refine pyNext_chain hall hX₀ T₀ hmI.2.2 F.keep (by rw [Around.in1_frames]; exact hA) (.cons (outer := []) hk hf F.ns (get_none_of_le (Nat.zero_le _)) trivial) hh hd hit hl hcA ?_ ?_
  · intro j a t h' tk h1 h2 h3 h4 h5 h6
    obtain ⟨oI', hoI', hc', hd'⟩ := h5
    refine ok j a t h' tk oI' h1 h2 h3 h4 ⟨hc', hd'⟩ ⟨F.ns.at' fun o e => h6 L o hLI e, fun b o e => h6 b o (hnotI b o e) (F.keep b o e), F.above⟩ fun q hq => ?_
    rcases List.mem_cons.mp hq with rfl | hq
    · exact ⟨hoI', hmI.2⟩
    · exact ⟨h6 _ _ (off q hq) (N q (List.mem_cons_of_mem _ hq)).1, (N q (List.mem_cons_of_mem _ hq)).2⟩
  · intro e h' tk h1 R
    refine stop h' tk h1 (Fr.raised F hf hmI.2.2 R) fun q hq => ?_
    have hq' := N q (List.mem_cons_of_mem _ hq)
    refine ⟨R.keeps ?_ (off q hq) hq'.1, hq'.2⟩
    simp only [framesOf, List.filterMap_cons, hf, List.filterMap_nil, List.mem_singleton]
    exact hq'.2.1
end
end Mine
namespace Mine
section
variable {w : World} {p : Program} {loose : List Str} {mg mb : Str → Option Value} {h : Heap}
theorem selfIter_ff {x dx b : Addr} {it : Value} (hX : (KF w).In h) (T : TopRead p loose mg mb h) (h1 : h.get? x = some (ffObj dx it b)) (h2 : h.get? dx = some (dictOf [] 0)) : SelfIter PP w (.ref x) h := by
  intro A Q E s hd hu k q
  have X := hX.keeps k
  have T' := T.keeps k
  have I := ffInst (k _ _ h1) (k _ _ h2)
  have hs : findIn (KF w) (.ref 47) "__iter__" = some (some (.ref 36)) := by kernel_rfl
  have hn : findIn (KF w) (.ref 47) "__next__" = some (some (.ref 43)) := by kernel_rfl
  have hf : typeIn (KF w) (.ref 36) = some (.type "function") := by kernel_rfl
  have hfo := X 36 _ (rfl : (KF w).lookup 36 = some _)
  have called : ∀ {α : Type} (f : Value → Sem α) (P : α → Shared → Prop), (∀ tk h', (∀ b o, s.heap.get? b = some o → h'.get? b = some o) → wpAny (model PP w) A (f (.ref x)) P E { s with heap := h', toks := tk }) → wpAny (model PP w) A (call (.ref 36) [.ref x] >>= f) P E s := by
    intro α f P hp
    refine wpAny_bind (wpAny_call (codeAny_call_def (binds := [(("self" : Str), .ref x)]) (by omega) hfo rfl T'.nolimit (codeRec_of X (by kernel_rfl)) rfl (BindsTo.of_eq rfl) (by decide) (locs rfl) ?_ rfl rfl rfl))
    intro h₁ hns hk
    dsimp only
    refine wpAny_execs_cons (wpAny_Return_some (wpAny_Name (wpAny_loadName_local rfl rfl hns (v := .ref x) rfl ?_)))
    dsimp only
    exact hp _ _ hk
  have one : ∀ refuse : Sem Value, wpAny (model PP w) A (callSpecialIfBoundUnlessNone? (.ref x) "__iter__" refuse) (fun r s' => r = some (.ref x) ∧ ∃ tk h', (∀ b o, s.heap.get? b = some o → h'.get? b = some o) ∧ s' = { s with heap := h', toks := tk }) E s := by
    intro refuse
    simp only [callSpecialIfBoundUnlessNone?, bindSpecialIfBound?]
    refine wpAny_holding (wpAny_bind (wpAny_bind (wpAny_bind (I.type.here ((looks_findIn X hs).here ?_)))))
    refine wpAny_bind (wpAny_askSetting (wpAny_ite ?_))
    have fin : wpAny (model PP w) A (if (Value.ref 36 == Value.none) = true then (refuse >>= fun v => pure (some v)) else (call (.ref 36) [.ref x] >>= fun v => pure (some v)))
        (fun r s' => r = some (.ref x) ∧ ∃ tk h', (∀ b o, s.heap.get? b = some o → h'.get? b = some o) ∧ s' = { s with heap := h', toks := tk }) E s := by
      rw [if_neg (show ¬ ((Value.ref 36 == Value.none) = true) from Bool.false_ne_true)]
      exact called _ _ fun tk h' hk => wpAny_pure ⟨rfl, tk, h', hk, rfl⟩
    split
    · exact wpAny_bind ((bind_fn X _ hf).here (wpAny_pure (by exact fin)))
    · exact wpAny_tryCatch (wpAny_bind ((bind_fn X _ hf).here (wpAny_pure (by exact fin))))
  unfold pyIter
  refine wpAny_bind (wpAny_bind (I.type.here ((looks_findIn X hs).here ?_)))
  show wpAny _ A (callSpecialIfBoundUnlessNone? (.ref x) "__iter__" _ >>= _) Q E s
  refine wpAny_bind (wpAny_mono (one _) (fun r s' hr => ?_) fun _ _ z => z)
  obtain ⟨rfl, tk, h', hk, rfl⟩ := hr
  dsimp only
  refine wpAny_bind (wpAny_bind (((ffInst (hk _ _ (k _ _ h1)) (hk _ _ (k _ _ h2))).type).here ((looks_findIn (X.keeps hk) hn).here ?_)))
  exact wpAny_pure (q tk h' hk)
end
end Mine
namespace Mine
section
variable {prog : Program} {w : World} {A : Around} {E : Value → Shared → Prop} {s : Shared} {h₀ : Heap} {L : Addr} {m : Str → Option Value} {news : List (Addr × Obj)}
/-- a turn's end: the word holds of what stands now, at a smaller number -/
def WEnd (h₀ : Heap) (L : Addr) (J : Nat → (Str → Option Value) → List (Addr × Obj) → Prop) (n : Nat) (s₁ s₃ : Shared) : Prop :=
  ∃ n' m' news' h' tk', n' < n ∧ s₃ = { s₁ with heap := h', toks := tk' } ∧ Fr h₀ L h' m' ∧ News h₀ L h' news' ∧ J n' m' news'
def WPost (h₀ : Heap) (L : Addr) (J : Nat → (Str → Option Value) → List (Addr × Obj) → Prop) (n : Nat) (s₁ : Shared) (Q : Flow → Shared → Prop) (f : Flow) (s₃ : Shared) : Prop :=
  match f with
  | .next | .cont => WEnd h₀ L J n s₁ s₃
  | .brk => Q .next s₃
  | .ret v => Q (.ret v) s₃
theorem While_N {env : Env} {test : PySem.Expr} {body : List Stmt} {pos : Pos} {Q : Flow → Shared → Prop} (J : Nat → (Str → Option Value) → List (Addr × Obj) → Prop) {n : Nat}
    (F : Fr h₀ L s.heap m) (N : News h₀ L s.heap news) (hj : J n m news)
    (turn : ∀ n m news h tk, J n m news → Fr h₀ L h m → News h₀ L h news →
      wpAny (model prog w) A (isTrue test env (eval test env)) (fun b s₂ => if b then wpAny (model prog w) A (execs body env) (WPost h₀ L J n s Q) E s₂ else Q .next s₂) E { s with heap := h, toks := tk })
    (hE : PassesOwn (model prog w) A env E := by passes_own) : wpAny (model prog w) A (exec (.While test body [] pos) env) Q E s := by
  refine wpAny_While (codeAny_whileLoop (fun k s' => ∃ m' news' h' tk', s' = { s with heap := h', toks := tk' } ∧ Fr h₀ L h' m' ∧ News h₀ L h' news' ∧ J k m' news') ?_ n ⟨m, news, s.heap, s.toks, rfl, F, N, hj⟩)
  rintro k s' ⟨m', news', h', tk', rfl, F', N', hj'⟩
  refine wpAny_passesOwn hE (wpAny_mono (turn k m' news' h' tk' hj' F' N') (fun b s₂ hb => ?_) fun _ _ z => z)
  cases b with
  | false =>
    rw [if_neg Bool.false_ne_true] at hb ⊢
    exact wpAny_execs_nil hb
  | true =>
    rw [if_pos rfl] at hb ⊢
    refine wpAny_passesOwn hE (wpAny_mono hb (fun f s₃ hf => ?_) fun _ _ z => z)
    have fin : WEnd h₀ L J k s s₃ → ∃ m, m < k ∧ ∃ m' news' h' tk', s₃ = { s with heap := h', toks := tk' } ∧ Fr h₀ L h' m' ∧ News h₀ L h' news' ∧ J m m' news' := by
      rintro ⟨n', m', news', h', tk', a, b, c, d, e⟩
      exact ⟨n', a, m', news', h', tk', b, c, d, e⟩
    cases f with
    | next => exact fin hf
    | cont => exact fin hf
    | brk => exact hf
    | ret v => exact hf
end
end Mine
namespace Mine
section
variable {prog : Program} {w : World} {A : Around} {E : Value → Shared → Prop} {s : Shared} {h₀ : Heap} {L : Addr} {m : Str → Option Value} {news : List (Addr × Obj)}
def FEnd (h₀ : Heap) (L : Addr) (J : Nat → (Str → Option Value) → List (Addr × Obj) → Prop) (n : Nat) (s₁ s₃ : Shared) : Prop :=
  ∃ n' m' news' h' tk', n' < n ∧ s₃ = { s₁ with heap := h', toks := tk' } ∧ Fr h₀ L h' m' ∧ News h₀ L h' news' ∧ J n' m' news'
def FPost (h₀ : Heap) (L : Addr) (J : Nat → (Str → Option Value) → List (Addr × Obj) → Prop) (n : Nat) (s₁ : Shared) (Q : Flow → Shared → Prop) (f : Flow) (s₃ : Shared) : Prop :=
  match f with
  | .next | .cont => FEnd h₀ L J n s₁ s₃
  | .brk => Q .next s₃
  | .ret v => Q (.ret v) s₃
def FTurn (prog : Program) (w : World) (A : Around) (E : Value → Shared → Prop) (h₀ : Heap) (L : Addr) (env : Env) (x : Str) (body : List Stmt) (J : Nat → (Str → Option Value) → List (Addr × Obj) → Prop) (n : Nat) (Q : Flow → Shared → Prop) (s₁ : Shared) (r : Option Value) (s₂ : Shared) : Prop :=
  match r with
  | none => Q .next s₂
  | some y => wpAny (model prog w) A (storeName env x y) (fun _ s₃ => wpAny (model prog w) A (execs body env) (FPost h₀ L J n s₁ Q) E s₃) E s₂
/-- for x in ..: the walk stands behind the iter -/
def ForAt (prog : Program) (w : World) (A : Around) (E : Value → Shared → Prop) (h₀ : Heap) (L : Addr) (env : Env) (x : Str) (body : List Stmt) (Q : Flow → Shared → Prop) (it : Value) (s₁ : Shared) : Prop :=
  ∃ (J : Nat → (Str → Option Value) → List (Addr × Obj) → Prop) (n : Nat) (m : Str → Option Value) (news : List (Addr × Obj)), Fr h₀ L s₁.heap m ∧ News h₀ L s₁.heap news ∧ J n m news ∧
    ∀ n m news h tk, J n m news → Fr h₀ L h m → News h₀ L h news → wpAny (model prog w) A (pyNext it) (FTurn prog w A E h₀ L env x body J n Q s₁) E { s₁ with heap := h, toks := tk }
theorem For_N {env : Env} {x : Str} {px pos : Pos} {iter : PySem.Expr} {body : List Stmt} {Q : Flow → Shared → Prop} (_F : Fr h₀ L s.heap m)
    (h : wpAny (model prog w) A (eval iter env) (fun xv s₁ => wpAny (model prog w) A (pyIter xv) (ForAt prog w A E h₀ L env x body Q) E s₁) E s)
    (hs : ∀ x, foldedSetIterable iter env x = pure x := by intro _; rfl) (hE : PassesOwn (model prog w) A env E := by passes_own) :
    wpAny (model prog w) A (exec (.For (.Name x px) iter body [] pos) env) Q E s := by
  refine wpAny_For (wpAny_mono h (fun xv s₁ h₁ => wpAny_mono h₁ (fun it s₂ h₂ => ?_) fun _ _ z => z) fun _ _ z => z) hs
  obtain ⟨J, n, m', news', F', N', hj, turn⟩ := h₂
  refine codeAny_forLoop (R := fun r s' => match r with | .ok f => Q f s' | .error e => cameBackBy (model prog w) A env E e s') (fun k s' => ∃ m' news' h' tk', s' = { s₂ with heap := h', toks := tk' } ∧ Fr h₀ L h' m' ∧ News h₀ L h' news' ∧ J k m' news') ?_ n ⟨m', news', s₂.heap, s₂.toks, rfl, F', N', hj⟩
  rintro k s' ⟨m', news', h', tk', rfl, F', N', hj'⟩
  refine wpAny_passesOwn hE (wpAny_mono (turn k m' news' h' tk' hj' F' N') (fun r s₁ hr => ?_) fun _ _ z => z)
  cases r with
  | none => exact wpAny_execs_nil hr
  | some y =>
    refine wpAny_passesOwn hE (wpAny_assign_Name (wpAny_mono hr (fun _ s₃ h₃ => ?_) fun _ _ z => z))
    refine wpAny_passesOwn hE (wpAny_mono h₃ (fun f s₄ h₄ => ?_) fun _ _ z => z)
    have fin : FEnd h₀ L J k s₂ s₄ → ∃ m, m < k ∧ ∃ m' news' h' tk', s₄ = { s₂ with heap := h', toks := tk' } ∧ Fr h₀ L h' m' ∧ News h₀ L h' news' ∧ J m m' news' := by
      rintro ⟨n', m', news', h', tk', a, b, c, d, e⟩
      exact ⟨n', a, m', news', h', tk', b, c, d, e⟩
    cases f with
    | next => exact fin h₄
    | cont => exact fin h₄
    | brk => exact h₄
    | ret v => exact h₄

abbrev rangeIterObj (x left step : Int) : Obj := { cls := .type "range_iterator", dict := none, data := .fields #[rawInt x, rawInt left, rawInt step], slots := #[] }
theorem iter_range_N {r : Addr} {a b c : Int} {t u v : Tok} {Q : Value → Shared → Prop} (F : Fr h₀ L s.heap m) (N : News h₀ L s.heap news) (hr : IsRange s.heap r a b c t u v) (hsm : Builtin.Range.small a b c = true)
    (h : ∀ I h', Fr h₀ L h' m → News h₀ L h' ((I, rangeIterObj a (Builtin.Range.rangeSize a b c) c) :: news) → (∀ p ∈ news, p.1 < I) → Q (.ref I) { s with heap := h' }) : wpAny (model prog w) A (pyIter (.ref r)) Q E s := by
  refine wpAny_pyIter_range hr hsm ?_
  exact h _ _ (F.push _) (N.push F _) fun p hp => Heap.lt_size (N p hp).1
theorem next_range_N {I : Addr} {x left step : Int} {pre post : List (Addr × Obj)} {Q : Option Value → Shared → Prop} (F : Fr h₀ L s.heap m) (N : News h₀ L s.heap (pre ++ (I, rangeIterObj x left step) :: post)) (hne : (∀ p ∈ pre, p.1 ≠ I) ∧ ∀ p ∈ post, p.1 ≠ I) (hh : A.handled = none)
    (go : 0 < left → ∀ h' tk t, Fr h₀ L h' m → News h₀ L h' (pre ++ (I, rangeIterObj (x + step) (left - 1) step) :: post) → Q (some (.int x t)) { s with heap := h', toks := tk })
    (stop : left ≤ 0 → ∀ h', Fr h₀ L h' m → News h₀ L h' (pre ++ post) → Q none { s with heap := h' }) : wpAny (model prog w) A (pyNext (.ref I)) Q E s := by
  have hI := N (I, rangeIterObj x left step) (List.mem_append_right _ (.head _))
  rcases (by omega : 0 < left ∨ left ≤ 0) with hl | hl
  · refine wpAny_pyNext_range_item hI.1 hl fun h' hit hs => ?_
    exact go hl _ _ _ (F.change hs hI.2.1 hI.2.2) (N.setAt hne.1 hne.2 hs hit)
  · refine wpAny_pyNext_range_end hh hI.1 hl fun h' hx => ?_
    refine stop hl h' ?_ fun p hp => ?_
    · refine ⟨?_, fun b o e => hx _ _ ?_ (F.keep b o e), F.above⟩
      · exact F.ns.at' fun o e => hx _ _ (Ne.symm hI.2.1) e
      · rintro rfl; rw [hI.2.2] at e; cases e
    · have hp' := N p (by rcases List.mem_append.mp hp with q | q; exact List.mem_append_left _ q; exact List.mem_append_right _ (.tail _ q))
      refine ⟨hx _ _ ?_ hp'.1, hp'.2⟩
      rcases List.mem_append.mp hp with q | q
      · exact hne.1 p q
      · exact hne.2 p q
end
end Mine
namespace Mine
section
variable {prog : Program} {w : World} {A : Around} {E : Value → Shared → Prop} {s : Shared} {h₀ : Heap} {L : Addr} {m : Str → Option Value} {news : List (Addr × Obj)}
/-- a quiet test of a comprehension's turn -/
def QuietT (prog : Program) (w : World) (A : Around) (h₀ : Heap) (news : List (Addr × Obj)) (cenv : Addr → Env) (x : Str) (ifs : List PySem.Expr) (P : Value → Prop) (p : Value → Bool) : Prop :=
  ∀ C v h tk m₃ E' g d o, P v → Fr h₀ C h m₃ → News h₀ C h news → m₃ x = some v →
    wpAny (model prog w) A (forIn ifs true fun c r => if r = true then do let ok ← isTrue c (cenv C) (eval c (cenv C)); pure (ForInStep.yield ok) else pure (ForInStep.yield r)) (fun ok s₄ => ok = p v ∧ Keeps { heap := h, toks := tk, gens := g, drawn := d, os := o } s₄) E' { heap := h, toks := tk, gens := g, drawn := d, os := o }
def QuietE (prog : Program) (w : World) (A : Around) (h₀ : Heap) (news : List (Addr × Obj)) (cenv : Addr → Env) (x : Str) (elt : PySem.Expr) (P : Value → Prop) (p : Value → Bool) (R : Value → Value → Prop) : Prop :=
  ∀ C v h tk m₃ E' g d o, P v → p v = true → Fr h₀ C h m₃ → News h₀ C h news → m₃ x = some v →
    wpAny (model prog w) A (eval elt (cenv C)) (fun y s₄ => R v y ∧ Keeps { heap := h, toks := tk, gens := g, drawn := d, os := o } s₄) E' { heap := h, toks := tk, gens := g, drawn := d, os := o }
theorem quietT_nil {cenv : Addr → Env} {x : Str} {P : Value → Prop} : QuietT prog w A h₀ news cenv x [] P (fun _ => true) := by
  intro C v h tk m₃ E' g d o _ _ _ _
  exact wpAny_pure ⟨rfl, ⟨_, _, rfl, fun _ _ e => e⟩⟩
theorem quietT_one {cenv : Addr → Env} {x : Str} {ct : PySem.Expr} {P : Value → Prop} {p : Value → Bool}
    (h : ∀ C v h tk m₃ E' g d o, P v → Fr h₀ C h m₃ → News h₀ C h news → m₃ x = some v → wpAny (model prog w) A (isTrue ct (cenv C) (eval ct (cenv C))) (fun ok s₄ => ok = p v ∧ Keeps { heap := h, toks := tk, gens := g, drawn := d, os := o } s₄) E' { heap := h, toks := tk, gens := g, drawn := d, os := o }) :
    QuietT prog w A h₀ news cenv x [ct] P p := by
  intro C v h' tk m₃ E' g d o hv F N hm
  simp only [List.forIn_cons, List.forIn_nil, if_true]
  exact wpAny_bind (wpAny_bind (wpAny_mono (h C v h' tk m₃ E' g d o hv F N hm) (fun ok s₄ hk => wpAny_pure (wpAny_pure hk)) fun _ _ z => z))
/-- [elt for x in l if ..]: the walk stands at the source -/
def CompAt (prog : Program) (w : World) (A : Around) (h₀ : Heap) (L : Addr) (env : Env) (scope : Scope) (cl : List (Str × Addr)) (x : Str) (ifs : List PySem.Expr) (elt : PySem.Expr) (Q : Value → Shared → Prop) (xv : Value) (s₁ : Shared) : Prop :=
  ∃ (ax : Addr) (vs : List Value) (m : Str → Option Value) (news : List (Addr × Obj)) (p : Value → Bool) (R : Value → Value → Prop), xv = .ref ax ∧ Fr h₀ L s₁.heap m ∧ News h₀ L s₁.heap news ∧ s₁.heap.IsList ax vs.toArray ∧ vs.length ≤ sizeLine ∧ A.handled = none ∧
    QuietT prog w A h₀ news (fun C => compEnvC scope cl C env) x ifs (· ∈ vs) p ∧ QuietE prog w A h₀ news (fun C => compEnvC scope cl C env) x elt (· ∈ vs) p R ∧
    ∀ D ys n h' tk, Fr h₀ L h' m → News h₀ L h' ((D, listOf (List.toArray ys) n) :: news) → (∀ q ∈ news, q.1 ≠ D) → Paired R (vs.filter p) ys → Q (.ref D) { s₁ with heap := h', toks := tk }
theorem Comp_N {env : Env} {elt iter : PySem.Expr} {x : Str} {px : Pos} {ifs : List PySem.Expr} {scope : Scope} {cl : List (Str × Addr)} {pos : Pos} {Q : Value → Shared → Prop} (F : Fr h₀ L s.heap m)
    (hclos : closureFor scope env = pure cl) (hcell : ∀ y ∈ scope.names, y.2 ≠ .cell) (hkind : scope.kind = .function)
    (hnames : ∀ y ∈ scope.names, y.2 = .local → scope.names.lookup y.1 = some .local) (hx : scope.names.lookup x = some .local)
    (h : wpAny (model prog w) A (eval iter env) (CompAt prog w A h₀ L env scope cl x ifs elt Q) E s)
    (hs : ∀ x, foldedSetIterable iter env x = pure x := by intro _; rfl) :
    wpAny (model prog w) A (eval (.ListComp elt [⟨.Name x px, iter, ifs, 0⟩] scope pos) env) Q E s := by
  rw [eval_ListComp]
  refine wpAny_comprehension_free (use := none) rfl hs hclos hkind hnames (wpAny_mono h (fun xv s₁ h₁ => ?_) fun _ _ e => e)
  obtain ⟨ax, vs, m', news', p, R, rfl, F', N', hl, hsz, hh, ht, he, hQ⟩ := h₁
  have hax : ax < s₁.heap.objs.size := by obtain ⟨_, e, _⟩ := id hl; exact Heap.lt_size e
  have notI : ∀ b, b < s₁.heap.objs.size → b ∉ [s₁.heap.objs.size] := fun b hb hm => by
    rcases List.mem_cons.mp hm with e | hm
    · exact Nat.lt_irrefl _ (e ▸ hb)
    · cases hm
  refine wpAny_pyIter_list hl ?_
  have W := Walks.list (prog := prog) (w := w) hh s₁.heap.objs.size ax (Nat.ne_of_lt hax) vs.toArray
  have there : ∀ {s₃ : Shared}, (∀ b o, b ∉ [s₁.heap.objs.size] → (s₁.heap.push { cls := .type "list_iterator", data := .fields #[.ref ax, .int 0 0] }).get? b = some o → s₃.heap.get? b = some o) → ∀ b o, s₁.heap.get? b = some o → s₃.heap.get? b = some o :=
    fun k b o e => k b o (notI b (Heap.lt_size e)) (Heap.get?_push_of_some _ e)
  have inner : ∀ {C : Addr} {s₃ : Shared} {m₃ : Str → Option Value}, (s₁.heap.push { cls := .type "list_iterator", data := .fields #[.ref ax, .int 0 0] }).objs.size ≤ C → s₃.heap.Ns C m₃ →
      (∀ b o, b ∉ [s₁.heap.objs.size] → (s₁.heap.push { cls := .type "list_iterator", data := .fields #[.ref ax, .int 0 0] }).get? b = some o → s₃.heap.get? b = some o) → Fr h₀ C s₃.heap m₃ ∧ News h₀ C s₃.heap news' := by
    intro C s₃ m₃ hC hn hk
    have hsC : s₁.heap.objs.size ≤ C := Nat.le_trans (by rw [Heap.size_push]; exact Nat.le_succ _) hC
    refine ⟨⟨hn, fun b o e => there hk b o (F'.keep b o e), ?_⟩, fun q hq => ⟨there hk _ _ (N' q hq).1, ?_, (N' q hq).2.2⟩⟩
    · exact Nat.le_trans (Nat.le_trans F'.above (Nat.le_of_lt F'.ns.lt)) hsC
    · exact Nat.ne_of_lt (Nat.lt_of_lt_of_le (Heap.lt_size (N' q hq).1) hsC)
  have memv : ∀ {i : Nat} {v : Value}, vs.toArray[i]? = some v → v ∈ vs := fun h => by
    rw [List.getElem?_toArray] at h
    exact List.mem_of_getElem? h
  refine comp_block_walkC (RR := fun acc C => compPost (model prog w) A E none Q acc C) W (by simpa using hsz) p R hcell hkind hx ?_ ?_ ⟨?_, ?_⟩ ?_
  · exact ⟨⟨_, Heap.get?_push_size _ rfl, rfl, rfl⟩, hl.push _⟩
  · intro b hb
    show b < (s₁.heap.push _).objs.size
    rw [Heap.size_push]
    rcases List.mem_cons.mp hb with rfl | hb
    · exact Nat.lt_succ_self _
    · rcases List.mem_cons.mp hb with rfl | hb
      · exact Nat.lt_succ_of_lt hax
      · cases hb
  · intro C i v s₃ m₃ E' hC hP hn hm hold _
    obtain ⟨F₃, N₃⟩ := inner hC hn hold
    exact ht C v s₃.heap s₃.toks m₃ E' s₃.gens s₃.drawn s₃.os (memv hP) F₃ N₃ hm
  · intro C i v s₃ m₃ E' hC hP hp hn hm hold _
    obtain ⟨F₃, N₃⟩ := inner hC hn hold
    exact he C v s₃.heap s₃.toks m₃ E' s₃.gens s₃.drawn s₃.os (memv hP) hp F₃ N₃ hm
  · intro D C h' tk m'' ys vs' hD hC hDC hn hlD hpl hlen hP hF hk
    have hh₁ : ∀ b o, s₁.heap.get? b = some o → h'.get? b = some o := there (s₃ := { s₁ with heap := h' }) hk
    have hszp : (s₁.heap.push { cls := .type "list_iterator", data := .fields #[.ref ax, .int 0 0] }).objs.size = s₁.heap.objs.size + 1 := Heap.size_push ..
    refine ⟨m'', hn, fun h'' hs'' => ?_⟩
    have keep : ∀ b o, s₁.heap.get? b = some o → h''.get? b = some o := fun b o e => hs''.extBut b o (by
      intro hb
      rw [← hb, show (s₁.heap.push { cls := .type "list_iterator", data := .fields #[.ref ax, .int 0 0] }).get? b = some o from Heap.get?_push_of_some _ e] at hC
      cases hC) (hh₁ b o e)
    obtain ⟨n, hD'⟩ := hpl.extBut hs''.extBut hDC
    have hDn : s₁.heap.get? D = none := by
      cases e : s₁.heap.get? D with
      | none => rfl
      | some o => rw [show (s₁.heap.push { cls := .type "list_iterator", data := .fields #[.ref ax, .int 0 0] }).get? D = some o from Heap.get?_push_of_some _ e] at hD; cases hD
    have hv : vs' = vs := list_of_places (by simpa using hlen) hP
    subst hv
    refine hQ D ys.toList n h'' tk (F'.keeps keep) ?_ (fun q hq e => ?_) hF
    · intro q hq
      rcases List.mem_cons.mp hq with rfl | hq
      · refine ⟨by simpa using hD', ?_, ?_⟩
        · rintro rfl
          obtain ⟨oL, _, _, hL, _⟩ := F'.ns
          rw [hDn] at hL; cases hL
        · cases e : h₀.get? D with
          | none => rfl
          | some o => rw [F'.keep _ _ e] at hDn; cases hDn
      · exact ⟨keep _ _ (N' q hq).1, (N' q hq).2⟩
    · have := (N' q hq).1
      rw [e, hDn] at this; cases this
def AllNe (d : Nat) : List (Addr × Obj) → Prop
  | [] => True
  | p :: r => @Ne Nat p.1 d ∧ AllNe d r
theorem allNe_of {d : Addr} : ∀ {l : List (Addr × Obj)}, (∀ p ∈ l, p.1 ≠ d) → AllNe d l
  | [], _ => trivial
  | p :: _, h => ⟨h p (.head _), allNe_of fun q hq => h q (.tail _ hq)⟩
theorem range1_M {Q : Value → Shared → Prop} {n : Int} {t : Tok} (F : Fr h₀ L s.heap m) (N : News h₀ L s.heap news)
    (h : ∀ r h' tk t₁ u₁ v₁, Fr h₀ L h' m → News h₀ L h' ((r, { cls := .type "range", dict := none, data := .fields #[.int 0 t₁, .int n u₁, .int 1 v₁], slots := #[] }) :: news) → (∀ p ∈ news, p.1 < r) → Q (.ref r) { s with heap := h', toks := tk }) :
    wpAny (model prog w) A (call (.type "range") [.int n t]) Q E s :=
  range1_rows F N (fun h' tk t₁ u₁ v₁ hr F' _ hk => h _ h' tk t₁ u₁ v₁ F' (News_new F N hk (Nat.le_refl _) hr) fun p hp => Heap.lt_size (N p hp).1)
theorem range2_M {Q : Value → Shared → Prop} {a n : Int} {t t' : Tok} (F : Fr h₀ L s.heap m) (N : News h₀ L s.heap news)
    (h : ∀ r h' tk t₁ u₁ v₁, Fr h₀ L h' m → News h₀ L h' ((r, { cls := .type "range", dict := none, data := .fields #[.int a t₁, .int n u₁, .int 1 v₁], slots := #[] }) :: news) → (∀ p ∈ news, p.1 < r) → Q (.ref r) { s with heap := h', toks := tk }) :
    wpAny (model prog w) A (call (.type "range") [.int a t', .int n t]) Q E s :=
  range2_rows F N (fun h' tk t₁ u₁ v₁ hr F' _ hk => h _ h' tk t₁ u₁ v₁ F' (News_new F N hk (Nat.le_refl _) hr) fun p hp => Heap.lt_size (N p hp).1)
end
end Mine
namespace Mine
section
variable {prog : Program} {w : World} {A : Around} {E : Value → Shared → Prop} {s : Shared} {h₀ : Heap} {L : Addr} {m : Str → Option Value} {news : List (Addr × Obj)}
theorem name_comp {env : Env} {scope : Scope} {cl : List (Str × Addr)} {C : Addr} {x : Str} {pos : Pos} {v : Value} {Q : Value → Shared → Prop} (F : Fr h₀ C s.heap m) (hv : m x = some v) (h : Q v s)
    (hk : (compEnvC scope cl C env).scope.kind = .function) (hx : (compEnvC scope cl C env).kindOf x = some .local) (hd : (x == ("__debug__" : Str)) = false := by decide) : wpAny (model prog w) A (eval (.Name x pos) (compEnvC scope cl C env)) Q E s :=
  wpAny_Name (wpAny_loadName_local hk hx F.ns hv h) hd
theorem ints_get {vs : List Value} {ns : List Int} (h : IntsAre vs ns) : ∀ v ∈ vs, ∃ a t, v = .int a t ∧ a ∈ ns := by
  induction h with
  | nil => intro v hv; cases hv
  | cons n t _ ih =>
    intro v hv
    rcases List.mem_cons.mp hv with rfl | hv
    · exact ⟨n, t, rfl, .head _⟩
    · obtain ⟨a, t', e, hm⟩ := ih v hv
      exact ⟨a, t', e, .tail _ hm⟩
theorem paired_filter {p : Int → Bool} {pv : Value → Bool} (hpv : ∀ a t, pv (.int a t) = p a) {vs : List Value} {ns : List Int} (h : IntsAre vs ns) : ∀ {ys : List Value}, Paired (fun v y => y = v) (vs.filter pv) ys → IntsAre ys (ns.filter p) := by
  induction h with
  | nil => intro ys hy; cases hy; exact .nil
  | cons n t _ ih =>
    intro ys hy
    rw [List.filter_cons, hpv] at hy
    rw [List.filter_cons]
    cases hp : p n with
    | false =>
      rw [hp, if_neg Bool.false_ne_true] at hy
      rw [if_neg Bool.false_ne_true]
      exact ih hy
    | true =>
      rw [hp, if_pos rfl] at hy
      rw [if_pos rfl]
      cases hy with
      | cons e r => subst e; exact .cons _ _ (ih r)
def pvOf (p : Int → Bool) : Value → Bool
  | .int a _ => p a
  | _ => false
/-- [x for x in l if ct], l of ints -/
theorem comp_ints (p : Int → Bool) {env : Env} {scope : Scope} {cl : List (Str × Addr)} {x : Str} {ct : PySem.Expr} {pos : Pos} {Q : Value → Shared → Prop} {ax : Addr} {vs : List Value} {na : Nat} {ns : List Int}
    (F : Fr h₀ L s.heap m) (N : News h₀ L s.heap news) (hm : (ax, listOf (List.toArray vs) na) ∈ news) (hi : IntsAre vs ns) (hz : vs.length ≤ 1000) (hh : A.handled = none)
    (hk : scope.kind = .function) (hx : ∀ C, (compEnvC scope cl C env).kindOf x = some .local) (hd : (x == ("__debug__" : Str)) = false)
    (ok : ∀ D ys n h' tk, Fr h₀ L h' m → News h₀ L h' ((D, listOf (List.toArray ys) n) :: news) → (∀ q ∈ news, q.1 ≠ D) → IntsAre ys (ns.filter p) → Q (.ref D) { s with heap := h', toks := tk })
    (test : ∀ C a t h tk m₃ E' g d o, a ∈ ns → Fr h₀ C h m₃ → News h₀ C h news → m₃ x = some (.int a t) → wpAny (model prog w) A (isTrue ct (compEnvC scope cl C env) (eval ct (compEnvC scope cl C env))) (fun ok s₄ => ok = p a ∧ Keeps { heap := h, toks := tk, gens := g, drawn := d, os := o } s₄) E' { heap := h, toks := tk, gens := g, drawn := d, os := o }) :
    CompAt prog w A h₀ L env scope cl x [ct] (.Name x pos) Q (.ref ax) s := by
  refine ⟨ax, vs, m, news, pvOf p, fun v y => y = v, rfl, F, N, ⟨_, (N _ hm).1, rfl, na, rfl⟩, by rw [sizeLine_eq]; omega, hh, quietT_one ?_, ?_, ?_⟩
  · intro C v h tk m₃ E' g d o hv F₃ N₃ hm₃
    obtain ⟨a, t, rfl, ha⟩ := ints_get hi v hv
    exact test C a t h tk m₃ E' g d o ha F₃ N₃ hm₃
  · intro C v h tk m₃ E' g d o hv _ F₃ N₃ hm₃
    exact name_comp (s := { heap := h, toks := tk, gens := g, drawn := d, os := o }) F₃ hm₃ ⟨rfl, ⟨_, _, rfl, fun _ _ e => e⟩⟩ hk (hx C) hd
  · intro D ys n h' tk F' N' hne hP
    exact ok D ys n h' tk F' N' hne (paired_filter (fun _ _ => rfl) hi hP)
end
end Mine
namespace Mine
section
variable {prog : Program} {w : World} {A : Around} {E : Value → Shared → Prop} {s : Shared} {h₀ : Heap} {L : Addr} {m : Str → Option Value} {news : List (Addr × Obj)}
theorem carried_ints : ∀ {vs : List Value} {ns : List Int}, CarriedAll vs (ns.map PyData.int) → IntsAre vs ns
  | _, [], h => by cases h; exact .nil
  | _, n :: r, h => by
    cases h with
    | cons h1 h2 => cases h1; exact .cons _ _ (carried_ints h2)
theorem add_made {a b : Addr} {vs ws : List Value} {ns ms : List Int} {news' : List (Addr × Obj)} {Q : Value → Shared → Prop} (F : Fr h₀ L s.heap m) (N : News h₀ L s.heap news) (ha : s.heap.IsList a vs.toArray) (P : NewPlain s.heap news' b ws.toArray)
    (hi : IntsAre vs ns) (hj : CarriedAll ws (ms.map PyData.int))
    (h : ∀ D us h', Fr h₀ L h' m → News h₀ L h' ((D, listOf (List.toArray us) 0) :: news) → (∀ p ∈ news, p.1 < D) → IntsAre us (ns ++ ms) → Q (.ref D) { s with heap := h' })
    (hz : ns.length + ms.length ≤ sizeLine) : wpAny (model prog w) A (binaryOp .Add (.ref a) (.ref b)) Q E s := by
  obtain ⟨⟨n, e⟩, _⟩ := P
  exact kmk_add_ints F N ha ⟨_, e, rfl, n, rfl⟩ hi (carried_ints hj) h hz
end

/-- the numbers that _difference takes out behind d -/
def multN (d : Int) : Nat := (Builtin.Range.rangeSize (2 * d) 22 d).toNat
def mult (d x : Int) : Bool := (firstMet (fun i => 2 * d + i * d) (multN d)).any (· == x)
/-- what is told of the row -/
def runT : List Int → List Int → List Int
  | [], told => told
  | x :: r, told => runT r (if told.all (fun d => !mult d x) then told ++ [x] else told)
theorem runT_append (xs ys told : List Int) : runT (xs ++ ys) told = runT ys (runT xs told) := by
  induction xs generalizing told with
  | nil => rfl
  | cons x r ih => simp only [List.cons_append, runT]; exact ih _
theorem range_facts : ∀ d : Fin 20, Builtin.Range.small (2 * ((d : Nat) + 2 : Int)) 22 ((d : Nat) + 2) = true ∧ Builtin.Range.rangeSize (2 * ((d : Nat) + 2 : Int)) 22 ((d : Nat) + 2) = (multN ((d : Nat) + 2) : Int) ∧ multN ((d : Nat) + 2) < 20 := by decide +kernel
theorem mult_facts : ∀ d x : Fin 20, mult ((d : Nat) + 2) ((x : Nat) + 2) = (decide ((d : Nat) < (x : Nat)) && decide ((((x : Nat) + 2 : Int)).fmod ((d : Nat) + 2) = 0)) := by decide +kernel
end Mine
namespace Mine
section canon
variable {h₀ h : Heap} {L : Addr} {news : List (Addr × Obj)}
/-- the rest of the ledger, beside the addresses of a list -/
def beside (as : List Addr) (news : List (Addr × Obj)) : List (Addr × Obj) := news.filter fun q => decide (q.1 ∉ as)
theorem beside_off (as : List Addr) : OwnOff (beside as news) as := fun p hp b hb e => by
  have := (List.mem_filter.mp hp).2
  rw [decide_eq_true_eq] at this
  exact this (e ▸ hb)
theorem news_canon (N : News h₀ L h news) {hd : List (Addr × Obj)} (hs : ∀ q ∈ hd, q ∈ news) : ∀ q ∈ news, q ∈ hd ++ beside (hd.map (·.1)) news := fun q hq => by
  by_cases e : q.1 ∈ hd.map (·.1)
  · obtain ⟨q', hq', e'⟩ := List.mem_map.mp e
    have h1 := (N q hq).1
    have h2 := (N q' (hs q' hq')).1
    rw [e'] at h2
    rw [h1] at h2
    have : q = q' := by
      obtain ⟨a, o⟩ := q; obtain ⟨a', o'⟩ := q'
      simp only at e' h2 h1
      cases h2; subst e'; rfl
    rw [this]; exact List.mem_append_left _ hq'
  · exact List.mem_append_right _ (List.mem_filter.mpr ⟨hq, by rw [decide_eq_true_eq]; exact e⟩)
theorem news_back (N : News h₀ L h news) {hd : List (Addr × Obj)} (hs : ∀ q ∈ hd, q ∈ news) : News h₀ L h (hd ++ beside (hd.map (·.1)) news) := fun q hq =>
  (List.mem_append.mp hq).elim (fun h => N q (hs q h)) fun h => N q (List.mem_filter.mp h).1
end canon
section
variable {w : World} {A : Around} {E : Value → Shared → Prop} {s : Shared} {p : Program} {loose : List Str} {mg mb : Str → Option Value} {h₀ : Heap} {L : Addr} {m : Str → Option Value} {news own : List (Addr × Obj)}
theorem allInt_of {us : List Value} {ns : List Int} (h : IntsAre us ns) : AllInt us.toArray := fun j v hv => by
  obtain ⟨t, e⟩ := IntsAre.int_at h j v (by simpa using hv)
  exact ⟨_, t, e⟩
theorem valAt_of {us : List Value} {ns : List Int} (h : IntsAre us ns) {j : Nat} (hj : j < ns.length) : valAt us.toArray j = ns[j] := by
  obtain ⟨t, ht⟩ := h.get j ns[j] (by simp [hj])
  unfold valAt
  simp [ht]

/-- next(left, 0) in the law's frame: the ledger comes back in order -/
theorem law_next {I R : Addr} {oI : Obj} {us : List Value} {rn : Nat} {ns : List Int} {fs : List (Int → Bool)} {v d : Value} {env : Env} {i : Nat} {hd : List (Addr × Obj)} {Q : Value → Shared → Prop} (F : Fr h₀ L s.heap m) (N : News h₀ L s.heap news) (hX₀ : (KF w).In h₀) (T₀ : TopRead p loose mg mb h₀)
    (hA : A.frames = some [env]) (hf : env.frame = some L) (hk : env.scope.kind ≠ .module) (hh : A.handled = none) (hdp : A.depth + fs.length + 2 < recursionLimit)
    (hmI : (I, oI) ∈ news) (hI : IsLI oI R i) (hmR : (R, listOf us.toArray rn) ∈ news) (hi : IntsAre us ns) (hc : ChainIn news I fs v) (hs : ∀ q ∈ hd, q ∈ news) (hne : ∀ q ∈ hd, q.1 ≠ I)
    (ok : ∀ (j : Nat) (a : Int) (t : Tok) (h' : Heap) (tk : Nat) (oI' : Obj) (own : List (Addr × Obj)), i ≤ j → ns[j]? = some a → Passes fs a → (∀ k x, i ≤ k → k < j → ns[k]? = some x → ¬ Passes fs x) → IsLI oI' R (j + 1) → OwnOff own (I :: hd.map (·.1)) → Fr h₀ L h' m → News h₀ L h' ((I, oI') :: (hd ++ own)) →
      ChainIn ((I, oI') :: (hd ++ own)) I fs v → Q (.int a t) { s with heap := h', toks := tk })
    (stop : ∀ (h' : Heap) (tk : Nat) (own : List (Addr × Obj)), (∀ k x, i ≤ k → ns[k]? = some x → ¬ Passes fs x) → OwnOff own (hd.map (·.1)) → Fr h₀ L h' m → News h₀ L h' (hd ++ own) → Q d { s with heap := h', toks := tk }) :
    wpAny (model PP w) A (call (.builtin "next") [v, d]) Q E s := by
  have hlen := hi.length
  have hsI : ∀ q ∈ (I, oI) :: hd, q ∈ news := fun q hq => (List.mem_cons.mp hq).elim (fun e => e ▸ hmI) (hs q)
  have NB := news_back N hsI
  have NC := news_canon N hsI
  have offB : OwnOff (beside (((I, oI) :: hd).map (·.1)) news) (I :: hd.map (·.1)) := beside_off _
  generalize beside (((I, oI) :: hd).map (·.1)) news = ob at NB NC offB
  have offI : ∀ q ∈ hd ++ ob, q.1 ≠ I := fun q hq => (List.mem_append.mp hq).elim (hne q) fun h => offB q h I List.mem_cons_self
  refine next2_N (allInt_of hi) F (news := hd ++ ob) NB hX₀ T₀ hA hf hk hh hdp hI ⟨_, (N _ hmR).1, rfl, rn, rfl⟩ (hc.mono NC) offI ?_ ?_
  · intro j a t h' tk oI' h1 h2 h3 h4 h5 F' N'
    have hj : ns[j]? = some a := by
      have hlt : j < us.length := by have := (Array.getElem?_eq_some_iff.mp h2).1; simpa using this
      obtain ⟨t', ht⟩ := hi.get j (ns[j]'(by omega)) (by simp [show j < ns.length from by omega])
      rw [List.getElem?_toArray, ht] at h2
      have : ns[j]'(by omega) = a := by injection h2 with h2; injection h2
      rw [List.getElem?_eq_getElem (by omega), this]
    refine ok j a t h' tk oI' ob h1 hj h3 (fun k x hk1 hk2 hkx => ?_) h5 offB F' N' ?_
    · have hlt : k < ns.length := by
        rcases Nat.lt_or_ge k ns.length with q | q
        · exact q
        · rw [List.getElem?_eq_none q] at hkx; cases hkx
      have := h4 k hk1 hk2
      rw [valAt_of hi hlt] at this
      rw [List.getElem?_eq_getElem hlt] at hkx; cases hkx
      exact this
    · -- the chain stands as it stood: none of its objects is the iterator
      have move : ∀ q ∈ (I, oI) :: (hd ++ ob), q.1 ≠ I → q ∈ (I, oI') :: (hd ++ ob) := fun q hq hqI => (List.mem_cons.mp hq).elim (fun e => absurd (by rw [e]) hqI) (List.mem_cons_of_mem _)
      have go : ∀ (fs : List (Int → Bool)) (v : Value), ChainIn ((I, oI) :: (hd ++ ob)) I fs v → ChainIn ((I, oI') :: (hd ++ ob)) I fs v := by
        intro fs
        induction fs with
        | nil => intro v e; exact e
        | cons f r ih =>
          rintro v ⟨x, dx, b, S, so, it, e, h1, h2, h3, h4, h5', h6⟩
          have ne : ∀ {a : Addr} {o : Obj}, (a, o) ∈ (I, oI) :: (hd ++ ob) → o.cls ≠ .type "list_iterator" → a ≠ I := by
            rintro a o hm hc rfl
            have e1 := (NB _ hm).1
            have e2 := (NB (a, oI) List.mem_cons_self).1
            rw [e1] at e2; cases e2
            exact hc hI.1
          obtain ⟨es, ep, tt, rfl⟩ := h5'.shape
          exact ⟨x, dx, b, S, _, it, e, move _ h1 (ne h1 (by simp)), move _ h2 (ne h2 (by simp)), move _ h3 (ne h3 (by simp)), move _ h4 (ne h4 (by simp)), h5', ih _ h6⟩
      exact go fs v (hc.mono NC)
  · intro h' tk h1 F' N'
    refine stop h' tk ob (fun k x hk hkx => ?_) (fun q hq b hb => offB q hq b (List.mem_cons_of_mem _ hb)) F' N'
    have hlt : k < ns.length := by
      rcases Nat.lt_or_ge k ns.length with q | q
      · exact q
      · rw [List.getElem?_eq_none q] at hkx; cases hkx
    have := h1 k hk (by simp; omega)
    rw [valAt_of hi hlt] at this
    rw [List.getElem?_eq_getElem hlt] at hkx; cases hkx
    exact this
end
end Mine
namespace Mine
/-- the filters of the chain take out what the told ones say -/
def Same (fs : List (Int → Bool)) (told : List Int) : Prop := ∀ x, Passes fs x ↔ told.all (fun d => !mult d x) = true
abbrev led1 (I T R c2 c1 : Addr) (oI : Obj) (ts us : List Value) (tn : Nat) (o2 o1 : Obj) (own : List (Addr × Obj)) : List (Addr × Obj) :=
  (I, oI) :: (T, listOf ts.toArray tn) :: (R, listOf us.toArray 0) :: (c2, o2) :: (c1, o1) :: own
/-- between the turns of the law's while -/
inductive J1 (us : List Value) (ns : List Int) (I T R c2 c1 : Addr) (o2 o1 : Obj) : Nat → (Str → Option Value) → List (Addr × Obj) → Prop
  | live {k : Nat} {m : Str → Option Value} {oI : Obj} {a : Int} {t : Tok} {v : Value} {j : Nat} {fs : List (Int → Bool)} {ts : List Value} {tn : Nat} {told : List Int} {own : List (Addr × Obj)} :
      m "first" = some (.int a t) → m "told" = some (.ref T) → m "left" = some v → OwnOff own [I, T, R, c2, c1] → IsLI oI R (j + 1) → ChainIn (led1 I T R c2 c1 oI ts us tn o2 o1 own) I fs v → ns[j]? = some a → IntsAre ts told → told = runT (ns.take j) [] →
      Same fs told → told.all (fun d => !mult d a) = true → fs.length ≤ j → k = ns.length - j → J1 us ns I T R c2 c1 o2 o1 k m (led1 I T R c2 c1 oI ts us tn o2 o1 own)
  | done {m : Str → Option Value} {t : Tok} {ts : List Value} {tn : Nat} {own : List (Addr × Obj)} :
      m "first" = some (.int 0 t) → m "told" = some (.ref T) → OwnOff own [T, R, c2, c1] → IntsAre ts (runT ns []) → J1 us ns I T R c2 c1 o2 o1 0 m ((T, listOf ts.toArray tn) :: (R, listOf us.toArray 0) :: (c2, o2) :: (c1, o1) :: own)
section
variable {w : World} {A : Around} {E : Value → Shared → Prop} {s : Shared} {p : Program} {loose : List Str} {mg mb : Str → Option Value} {h₀ : Heap} {L : Addr} {m : Str → Option Value} {news own : List (Addr × Obj)}
theorem law1_loop {env : Env} {test : PySem.Expr} {body : List Stmt} {pos : Pos} {Q : Flow → Shared → Prop} {us : List Value} {ns : List Int} {I T R c2 c1 : Addr} {o2 o1 : Obj} {n : Nat}
    (F : Fr h₀ L s.heap m) (N : News h₀ L s.heap news) (hj : J1 us ns I T R c2 c1 o2 o1 n m news)
    (live : ∀ (m : Str → Option Value) (h : Heap) (tk : Nat) (oI : Obj) (a : Int) (t : Tok) (v : Value) (j : Nat) (fs : List (Int → Bool)) (ts : List Value) (tn : Nat) (told : List Int) (own : List (Addr × Obj)),
      m "first" = some (.int a t) → m "told" = some (.ref T) → m "left" = some v → OwnOff own [I, T, R, c2, c1] → IsLI oI R (j + 1) → ChainIn (led1 I T R c2 c1 oI ts us tn o2 o1 own) I fs v → ns[j]? = some a → IntsAre ts told → told = runT (ns.take j) [] →
      Same fs told → told.all (fun d => !mult d a) = true → fs.length ≤ j → Fr h₀ L h m → News h₀ L h (led1 I T R c2 c1 oI ts us tn o2 o1 own) →
      wpAny (model PP w) A (isTrue test env (eval test env)) (fun b s₂ => if b then wpAny (model PP w) A (execs body env) (WPost h₀ L (J1 us ns I T R c2 c1 o2 o1) (ns.length - j) s Q) E s₂ else Q .next s₂) E { s with heap := h, toks := tk })
    (done : ∀ (m : Str → Option Value) (h : Heap) (tk : Nat) (t : Tok) (ts : List Value) (tn : Nat) (own : List (Addr × Obj)), m "first" = some (.int 0 t) → m "told" = some (.ref T) → OwnOff own [T, R, c2, c1] → IntsAre ts (runT ns []) → Fr h₀ L h m →
      News h₀ L h ((T, listOf ts.toArray tn) :: (R, listOf us.toArray 0) :: (c2, o2) :: (c1, o1) :: own) →
      wpAny (model PP w) A (isTrue test env (eval test env)) (fun b s₂ => if b then wpAny (model PP w) A (execs body env) (WPost h₀ L (J1 us ns I T R c2 c1 o2 o1) 0 s Q) E s₂ else Q .next s₂) E { s with heap := h, toks := tk })
    (hE : PassesOwn (model PP w) A env E := by passes_own) : wpAny (model PP w) A (exec (.While test body [] pos) env) Q E s := by
  refine While_N (J1 us ns I T R c2 c1 o2 o1) F N hj ?_ hE
  intro k m news h tk J F' N'
  cases J with
  | live a1 a2 a3 a4 a5 a6 a7 a8 a9 a10 a11 a12 a13 => subst a13; exact live m h tk _ _ _ _ _ _ _ _ _ _ a1 a2 a3 a4 a5 a6 a7 a8 a9 a10 a11 a12 F' N'
  | done a1 a2 a3 a4 => exact done m h tk _ _ _ _ a1 a2 a3 a4 F' N'
theorem runT_stay {told : List Int} : ∀ {xs : List Int}, (∀ x ∈ xs, told.all (fun d => !mult d x) = false) → runT xs told = told
  | [], _ => rfl
  | x :: r, h => by
    rw [runT, h x List.mem_cons_self]
    exact runT_stay fun y hy => h y (List.mem_cons_of_mem _ hy)
/-- the first number, ahead of the while -/
theorem law1_first {env : Env} {us : List Value} {ns : List Int} {I T R Y c2 c1 : Addr} {oY o2 o1 : Obj} {d : Tok} {Q : Value → Shared → Prop}
    (F : Fr h₀ L s.heap m) (N : News h₀ L s.heap [(T, listOf #[] 0), (I, { cls := .type "list_iterator", data := .fields #[.ref R, .int 0 0] }), (R, listOf us.toArray 0), (Y, oY), (c2, o2), (c1, o1)]) (hX₀ : (KF w).In h₀) (T₀ : TopRead p loose mg mb h₀)
    (hA : A.frames = some [env]) (hf : env.frame = some L) (hk : env.scope.kind ≠ .module) (hh : A.handled = none) (hdp : A.depth + 2 < recursionLimit) (hi : IntsAre us ns) (h1 : I < T ∧ R < T ∧ Y < T ∧ c2 < T ∧ c1 < T) (h2 : R < I ∧ Y < I ∧ c2 < I ∧ c1 < I)
    (ok : ∀ (k : Nat) (v : Value) (h' : Heap) (tk : Nat) (news : List (Addr × Obj)), Fr h₀ L h' m → News h₀ L h' news → (∀ m' : Str → Option Value, m' "first" = some v → m' "told" = some (.ref T) → m' "left" = some (.ref I) → J1 us ns I T R c2 c1 o2 o1 k m' news) → Q v { s with heap := h', toks := tk }) :
    wpAny (model PP w) A (call (.builtin "next") [.ref I, .int 0 d]) Q E s := by
  have neI : ∀ q ∈ [(T, listOf #[] 0), (R, listOf us.toArray 0), (c2, o2), (c1, o1)], q.1 ≠ I := by
    intro q hq
    simp only [List.mem_cons, List.not_mem_nil, or_false] at hq
    rcases hq with rfl | rfl | rfl | rfl
    · exact Nat.ne_of_gt h1.1
    · exact Nat.ne_of_lt h2.1
    · exact Nat.ne_of_lt h2.2.2.1
    · exact Nat.ne_of_lt h2.2.2.2
  refine law_next (rn := 0) (fs := []) (hd := [(T, listOf #[] 0), (R, listOf us.toArray 0), (c2, o2), (c1, o1)]) F N hX₀ T₀ hA hf hk hh hdp (by simp) (oI := { cls := .type "list_iterator", data := .fields #[.ref R, .int 0 0] }) (i := 0) ⟨rfl, rfl⟩ (by simp) hi rfl (by simp) neI ?_ ?_
  · intro j a t h' tk oI' own h1 hj h3 hbet hli off F' N' hc
    have hj0 : j = 0 := by
      rcases Nat.eq_zero_or_pos j with e | e
      · exact e
      · exfalso
        have hlt := (List.getElem?_eq_some_iff.mp hj).1
        exact hbet 0 _ (Nat.le_refl _) e (List.getElem?_eq_getElem (by omega)) fun f hf => nomatch hf
    subst hj0
    refine ok ns.length (.int a t) h' tk _ F' N' fun m' m1 m2 m3 => ?_
    exact .live (j := 0) (fs := []) (ts := []) (told := []) m1 m2 m3 off hli hc hj .nil rfl (fun x => by simp [Passes]) rfl (Nat.le_refl _) rfl
  · intro h' tk own hno off F' N'
    have hns : ns = [] := by
      cases ns with
      | nil => rfl
      | cons a r => exact absurd (fun f hf => nomatch hf) (hno 0 a (Nat.le_refl _) rfl)
    refine ok 0 (.int 0 d) h' tk _ F' N' fun m' m1 m2 m3 => ?_
    subst hns
    exact .done (ts := []) m1 m2 off .nil
end
end Mine
namespace Mine
section
variable {w : World} {A : Around} {E : Value → Shared → Prop} {s : Shared} {p : Program} {loose : List Str} {mg mb : Str → Option Value} {h₀ : Heap} {L : Addr} {m : Str → Option Value} {news own : List (Addr × Obj)}

theorem same_after {fs fs' : List (Int → Bool)} {told : List Int} {a : Int} (h : Same fs told) (hf : (fs' = fs ∧ a ∈ told) ∨ (∃ f, fs' = f :: fs ∧ ∀ x, f x = mult a x)) : Same fs' (told ++ [a]) := by
  intro x
  rw [List.all_append, List.all_cons, List.all_nil, Bool.and_true, Bool.and_eq_true]
  rcases hf with ⟨rfl, hm⟩ | ⟨f, rfl, hf⟩
  · rw [h x]
    exact ⟨fun q => ⟨q, List.all_eq_true.mp q a hm⟩, fun q => q.1⟩
  · rw [← h x, ← hf x]
    constructor
    · intro q
      exact ⟨fun g hg => q g (List.mem_cons_of_mem _ hg), by rw [q f List.mem_cons_self]; rfl⟩
    · rintro ⟨q1, q2⟩ g hg
      rcases List.mem_cons.mp hg with rfl | hg
      · simpa using q2
      · exact q1 g hg

theorem take_split {ns : List Int} {j j2 : Nat} (hjj : j + 1 ≤ j2) (hj2 : j2 ≤ ns.length) : ns.take j2 = ns.take (j + 1) ++ (ns.drop (j + 1)).take (j2 - (j + 1)) := by
  rw [show j2 = (j + 1) + (j2 - (j + 1)) from by omega, List.take_add]
  congr 2
  omega
theorem mem_between {ns : List Int} {i n : Nat} {x : Int} (h : x ∈ (ns.drop i).take n) : ∃ k, i ≤ k ∧ k < i + n ∧ ns[k]? = some x := by
  obtain ⟨k, hk, e⟩ := List.mem_iff_getElem.mp h
  have hk' : k < n := by rw [List.length_take] at hk; omega
  have hkl : k < ns.length - i := by rw [List.length_take, List.length_drop] at hk; omega
  refine ⟨i + k, by omega, by omega, ?_⟩
  rw [List.getElem_take, List.getElem_drop] at e
  rw [List.getElem?_eq_getElem (by omega), e]

/-- what the turn has told, up to the next number -/
theorem told_next {ns : List Int} {told : List Int} {fs' : List (Int → Bool)} {j j2 : Nat} {a : Int} (ha : ns[j]? = some a) (ht : told = runT (ns.take j) []) (hp : told.all (fun d => !mult d a) = true) (hS : Same fs' (told ++ [a])) (hjj : j + 1 ≤ j2) (hj2 : j2 ≤ ns.length)
    (hno : ∀ k x, j + 1 ≤ k → k < j2 → ns[k]? = some x → ¬ Passes fs' x) : told ++ [a] = runT (ns.take j2) [] := by
  rw [take_split hjj hj2, runT_append, List.take_add_one, ha, runT_append, ← ht]
  show _ = runT _ (runT [a] told)
  rw [runT, hp, if_pos rfl, runT, runT_stay]
  intro x hx
  obtain ⟨k, h1, h2, h3⟩ := mem_between hx
  have := hno k x h1 (by omega) h3
  rw [hS x] at this
  simpa using this

/-- next(left, 0) at the turn's end -/
theorem law1_next {env : Env} {us : List Value} {ns : List Int} {I T R c2 c1 : Addr} {oI o2 o1 : Obj} {d : Tok} {v : Value} {fs : List (Int → Bool)} {ts : List Value} {tn : Nat} {told : List Int} {a : Int} {j : Nat} {Q : Value → Shared → Prop}
    (F : Fr h₀ L s.heap m) (N : News h₀ L s.heap news) (hX₀ : (KF w).In h₀) (T₀ : TopRead p loose mg mb h₀)
    (hA : A.frames = some [env]) (hf : env.frame = some L) (hk : env.scope.kind ≠ .module) (hh : A.handled = none) (hdp : A.depth + (ns.length + 1) + 2 < recursionLimit) (hi : IntsAre us ns)
    (hm1 : (I, oI) ∈ news) (hm2 : (T, listOf ts.toArray tn) ∈ news) (hm3 : (R, listOf us.toArray 0) ∈ news) (hm4 : (c2, o2) ∈ news) (hm5 : (c1, o1) ∈ news) (hne : T ≠ I ∧ R ≠ I ∧ c2 ≠ I ∧ c1 ≠ I)
    (hI : IsLI oI R (j + 1)) (hc : ChainIn news I fs v) (ha : ns[j]? = some a) (hts : IntsAre ts (told ++ [a])) (ht : told = runT (ns.take j) []) (hp : told.all (fun d => !mult d a) = true) (hS : Same fs (told ++ [a])) (hfs : fs.length ≤ j + 1)
    (ok : ∀ (k : Nat) (x : Value) (h' : Heap) (tk : Nat) (news : List (Addr × Obj)), Fr h₀ L h' m → News h₀ L h' news → k < ns.length - j → (∀ m' : Str → Option Value, m' "first" = some x → m' "told" = some (.ref T) → m' "left" = some v → J1 us ns I T R c2 c1 o2 o1 k m' news) → Q x { s with heap := h', toks := tk }) :
    wpAny (model PP w) A (call (.builtin "next") [v, .int 0 d]) Q E s := by
  have hjl : j < ns.length := (List.getElem?_eq_some_iff.mp ha).1
  refine law_next (rn := 0) (fs := fs) (hd := [(T, listOf ts.toArray tn), (R, listOf us.toArray 0), (c2, o2), (c1, o1)]) F N hX₀ T₀ hA hf hk hh (by omega) hm1 hI hm3 hi hc ?_ ?_ ?_ ?_
  · intro q hq
    simp only [List.mem_cons, List.not_mem_nil, or_false] at hq
    rcases hq with rfl | rfl | rfl | rfl <;> assumption
  · intro q hq
    simp only [List.mem_cons, List.not_mem_nil, or_false] at hq
    rcases hq with rfl | rfl | rfl | rfl
    · exact hne.1
    · exact hne.2.1
    · exact hne.2.2.1
    · exact hne.2.2.2
  · intro j2 b t h' tk oI' own h1 hj2 h3 hbet hli off F' N' hc'
    have hlt := (List.getElem?_eq_some_iff.mp hj2).1
    refine ok (ns.length - j2) (.int b t) h' tk _ F' N' (by omega) fun m' m1 m2 m3 => ?_
    exact .live (j := j2) m1 m2 m3 off hli hc' hj2 hts (told_next ha ht hp hS h1 (by omega) fun k x a b => hbet k x a b) hS ((hS b).mp h3) (by omega) rfl
  · intro h' tk own hno off F' N'
    refine ok 0 (.int 0 d) h' tk _ F' N' (by omega) fun m' m1 m2 m3 => ?_
    have : told ++ [a] = runT ns [] := by
      have := told_next ha ht hp hS (j2 := ns.length) (by omega) (Nat.le_refl _) fun k x a _ => hno k x a
      rwa [List.take_length] at this
    exact .done m1 m2 off (this ▸ hts)
end
end Mine
namespace Mine
section
variable {prog : Program} {w : World} {A : Around} {E : Value → Shared → Prop} {s : Shared} {h₀ : Heap} {L : Addr} {m : Str → Option Value} {news news' : List (Addr × Obj)}
abbrev rangeObj (a b c : Int) (t u v : Tok) : Obj := { cls := .type "range", dict := none, data := .fields #[.int a t, .int b u, .int c v], slots := #[] }
theorem append_N {D : Addr} {its : List Value} {n : Nat} {x : Value} {Q : Value → Shared → Prop} (F : Fr h₀ L s.heap m) (N : News h₀ L s.heap news) (U : Upd D (listOf its.toArray n) (listOf (its ++ [x]).toArray (n + 1)) news news') (hz : its.length ≤ 1000)
    (h : ∀ h', Fr h₀ L h' m → News h₀ L h' news' → Q .none { s with heap := h' }) : wpAny (model prog w) A (call (.builtin "list.append") [.ref D, x]) Q E s := by
  have e : (its ++ [x]).toArray = its.toArray.push x := by simp
  rw [e] at U
  exact append_K F N U h (by rw [sizeLine_eq]; simp; omega)
theorem range3_N {Q : Value → Shared → Prop} {a b c : Int} {t u v : Tok} (F : Fr h₀ L s.heap m) (N : News h₀ L s.heap news) (hc : c ≠ 0) (hp : Builtin.divisionGoesByPylong (b - a) c = false)
    (h : ∀ r h' tk t₁ u₁ v₁, Fr h₀ L h' m → News h₀ L h' ((r, rangeObj a b c t₁ u₁ v₁) :: news) → (∀ p ∈ news, p.1 < r) → Q (.ref r) { s with heap := h', toks := tk }) :
    wpAny (model prog w) A (call (.type "range") [.int a t, .int b u, .int c v]) Q E s :=
  range3_rows F N hc (fun h' tk t₁ u₁ v₁ hr F' _ hk => h _ h' tk t₁ u₁ v₁ F' (News_new F N hk (Nat.le_refl _) hr) fun p hp => Heap.lt_size (N p hp).1) (.inl hp)
theorem set_rangeM {r : Addr} {a b c : Int} {t u v : Tok} {n : Nat} {Q : Value → Shared → Prop} (F : Fr h₀ L s.heap m) (N : News h₀ L s.heap news) (hm : (r, rangeObj a b c t u v) ∈ news) (hh : A.handled = none)
    (hf : Builtin.Range.small a b c = true ∧ Builtin.Range.rangeSize a b c = (n : Int) ∧ n < 20)
    (h : ∀ S so h' tk, Fr h₀ L h' m → News h₀ L h' ((S, so) :: news) → (∀ p ∈ news, p.1 < S) → IsHas so (fun k' => (firstMet (fun i => a + i * c) n).any (· == k')) → Q (.ref S) { s with heap := h', toks := tk }) :
    wpAny (model prog w) A (call (.type "set") [.ref r]) Q E s := set_range_N F N hh (N _ hm).1 hf.1 hf.2.1 (by unfold scanBound; omega) h
end
section
variable {w : World} {A : Around} {E : Value → Shared → Prop} {s : Shared} {p : Program} {loose : List Str} {mg mb : Str → Option Value} {h₀ : Heap} {L : Addr} {m : Str → Option Value} {news news₀ : List (Addr × Obj)}
theorem selfIter_chain {I l : Addr} {oI : Obj} {i : Nat} {h : Heap} : ∀ {fs : List (Int → Bool)} {v : Value}, News h₀ L h news → Fr h₀ L h m → (KF w).In h₀ → TopRead p loose mg mb h₀ → IsLI oI l i → (I, oI) ∈ news → ChainIn news₀ I fs v → (∀ p ∈ news₀, p ∈ news) → SelfIter PP w v h
  | [], _, N, F, X, T, hli, hm, hc, sub => by cases hc; exact selfIter_listiter (hli.at (N _ hm).1)
  | _ :: _, _, N, F, X, T, hli, hm, ⟨x, dx, b, S, so, it, e, h1, h2, _⟩, sub => by
    subst e
    exact selfIter_ff (X.keeps F.keep) (T.keeps F.keep) (N _ (sub _ h1)).1 (N _ (sub _ h2)).1
theorem iter_chain_N {I l : Addr} {oI : Obj} {i : Nat} {fs : List (Int → Bool)} {v : Value} {Q : Value → Shared → Prop} (F : Fr h₀ L s.heap m) (N : News h₀ L s.heap news) (X : (KF w).In h₀) (T : TopRead p loose mg mb h₀) (hli : IsLI oI l i) (hm : (I, oI) ∈ news) (hc : ChainIn news₀ I fs v) (sub : ∀ p ∈ news₀, p ∈ news)
    (hd : A.depth + 8 < recursionLimit) (hu : A.units + 65 < cLine) (h : ∀ h' tk, Fr h₀ L h' m → News h₀ L h' news → Q v { s with heap := h', toks := tk }) : wpAny (model PP w) A (call (.builtin "iter") [v]) Q E s :=
  iter_self_N F N (selfIter_chain N F X T hli hm hc sub) hd hu h
end
theorem range_facts' (d : Int) (h : 2 ≤ d ∧ d ≤ 21) : Builtin.Range.small (2 * d) 22 d = true ∧ Builtin.Range.rangeSize (2 * d) 22 d = (multN d : Int) ∧ multN d < 20 := by
  have := range_facts ⟨(d - 2).toNat, by omega⟩
  have e : (((d - 2).toNat : Nat) : Int) + 2 = d := by omega
  simp only [e] at this
  exact this
theorem mult_facts' (d x : Int) (h : 2 ≤ d ∧ d ≤ 21) (hx : 2 ≤ x ∧ x ≤ 21) : mult d x = (decide (d < x) && decide (x.fmod d = 0)) := by
  have := mult_facts ⟨(d - 2).toNat, by omega⟩ ⟨(x - 2).toNat, by omega⟩
  have e : (((d - 2).toNat : Nat) : Int) + 2 = d := by omega
  have e' : (((x - 2).toNat : Nat) : Int) + 2 = x := by omega
  simp only [e, e'] at this
  rw [this]
  have : (decide ((d - 2).toNat < (x - 2).toNat)) = decide (d < x) := by
    rw [decide_eq_decide]; omega
  rw [this]
end Mine
namespace Mine
/-- the chain's objects are no lists: a list may turn -/
theorem ChainIn.turn {news news' : List (Addr × Obj)} {I : Addr} (k : ∀ p ∈ news, p.2.cls ≠ .type "list" → p ∈ news') : ∀ {fs : List (Int → Bool)} {v : Value}, ChainIn news I fs v → ChainIn news' I fs v
  | [], _, e => e
  | _ :: _, _, ⟨x, dx, b, S, so, it, e, h1, h2, h3, h4, h5, h6⟩ => by
    obtain ⟨es, ep, t, rfl⟩ := h5.shape
    exact ⟨x, dx, b, S, _, it, e, k _ h1 (by simp), k _ h2 (by simp), k _ h3 (by simp), k _ h4 (by simp), h5, h6.turn k⟩
theorem runT_len : ∀ (xs told : List Int), (runT xs told).length ≤ xs.length + told.length
  | [], _ => by simp [runT]
  | x :: r, told => by
    rw [runT]
    cases told.all (fun d => !mult d x) with
    | false =>
      have := runT_len r told
      rw [if_neg Bool.false_ne_true, List.length_cons]
      omega
    | true =>
      have := runT_len r (told ++ [x])
      rw [if_pos rfl, List.length_cons]
      rw [List.length_append, List.length_singleton] at this
      omega
theorem told_len {ts : List Value} {told ns : List Int} {j : Nat} (h : IntsAre ts told) (ht : told = runT (ns.take j) []) (hl : ns.length ≤ 83) : ts.length ≤ 83 := by
  have h1 := runT_len (ns.take j) []
  rw [← ht, List.length_take, List.length_nil] at h1
  have h2 := IntsAre.length h
  omega
theorem ints_snoc {ts : List Value} {told : List Int} {a : Int} {t : Tok} (h : IntsAre ts told) : IntsAre (ts ++ [.int a t]) (told ++ [a]) := by
  induction h with
  | nil => exact .cons _ _ .nil
  | cons _ _ _ ih => exact .cons _ _ ih
theorem mem_of_any {told : List Int} {a : Int} (h : (told.any fun x => x == a) = true) : a ∈ told := by
  obtain ⟨x, hx, e⟩ := List.any_eq_true.mp h
  rw [← beq_iff_eq.mp e]
  exact hx
end Mine
namespace Mine
section
variable {w : World} {A : Around} {E : Value → Shared → Prop} {s : Shared} {p : Program} {loose : List Str} {mg mb : Str → Option Value} {h₀ : Heap} {L : Addr} {m : Str → Option Value} {own : List (Addr × Obj)}
theorem law1_old {env : Env} {us : List Value} {ns : List Int} {I T R c2 c1 : Addr} {oI o2 o1 : Obj} {d t : Tok} {v : Value} {fs : List (Int → Bool)} {ts : List Value} {tn tn' : Nat} {told : List Int} {a : Int} {j : Nat} {Q : Value → Shared → Prop}
    (hc : ChainIn (led1 I T R c2 c1 oI ts us tn o2 o1 own) I fs v) (F : Fr h₀ L s.heap m) (N : News h₀ L s.heap ((I, oI) :: (T, listOf (List.toArray (ts ++ [Value.int a t])) tn') :: (R, listOf us.toArray 0) :: (c2, o2) :: (c1, o1) :: own)) (hX₀ : (KF w).In h₀) (T₀ : TopRead p loose mg mb h₀)
    (hA : A.frames = some [env]) (hf : env.frame = some L) (hk : env.scope.kind ≠ .module) (hh : A.handled = none) (hdp : A.depth + (ns.length + 1) + 2 < recursionLimit) (hi : IntsAre us ns)
    (hne : T ≠ I ∧ R ≠ I ∧ c2 ≠ I ∧ c1 ≠ I)
    (hI : IsLI oI R (j + 1)) (ha : ns[j]? = some a) (hts : IntsAre ts told) (ht : told = runT (ns.take j) []) (hp : told.all (fun d => !mult d a) = true) (hS : Same fs told) (hm : a ∈ told) (hfs : fs.length ≤ j)
    (ok : ∀ (k : Nat) (x : Value) (h' : Heap) (tk : Nat) (news : List (Addr × Obj)), Fr h₀ L h' m → News h₀ L h' news → k < ns.length - j → (∀ m' : Str → Option Value, m' "first" = some x → m' "told" = some (.ref T) → m' "left" = some v → J1 us ns I T R c2 c1 o2 o1 k m' news) → Q x { s with heap := h', toks := tk }) :
    wpAny (model PP w) A (call (.builtin "next") [v, .int 0 d]) Q E s := by
  refine law1_next F N hX₀ T₀ hA hf hk hh hdp hi (.head _) (.tail _ (.head _)) (.tail _ (.tail _ (.head _))) (.tail _ (.tail _ (.tail _ (.head _)))) (.tail _ (.tail _ (.tail _ (.tail _ (.head _))))) hne hI (hc.turn ?_) ha (ints_snoc hts) ht hp (same_after hS (.inl ⟨rfl, hm⟩)) (by omega) ok
  intro p hp hcl
  simp only [List.mem_cons] at hp ⊢
  rcases hp with rfl | rfl | rfl | rfl | rfl | hp
  · exact .inl rfl
  · exact absurd rfl hcl
  · exact .inr (.inr (.inl rfl))
  · exact .inr (.inr (.inr (.inl rfl)))
  · exact .inr (.inr (.inr (.inr (.inl rfl))))
  · exact .inr (.inr (.inr (.inr (.inr hp))))
theorem law1_new {env : Env} {us : List Value} {ns : List Int} {I T R c2 c1 x dx b S r : Addr} {oI o2 o1 so ro : Obj} {f : Int → Bool} {d t : Tok} {v : Value} {fs : List (Int → Bool)} {ts : List Value} {tn tn' : Nat} {told : List Int} {a : Int} {j : Nat} {Q : Value → Shared → Prop}
    (hc : ChainIn (led1 I T R c2 c1 oI ts us tn o2 o1 own) I fs v) (F : Fr h₀ L s.heap m) (N : News h₀ L s.heap ((x, ffObj dx v b) :: (dx, dictOf [] 0) :: (b, boundHas S) :: (S, so) :: (r, ro) :: (I, oI) :: (T, listOf (List.toArray (ts ++ [Value.int a t])) tn') :: (R, listOf us.toArray 0) :: (c2, o2) :: (c1, o1) :: own)) (hX₀ : (KF w).In h₀) (T₀ : TopRead p loose mg mb h₀)
    (hs : IsHas so f) (hsf : ∀ x, f x = mult a x)
    (hA : A.frames = some [env]) (hf : env.frame = some L) (hk : env.scope.kind ≠ .module) (hh : A.handled = none) (hdp : A.depth + (ns.length + 1) + 2 < recursionLimit) (hi : IntsAre us ns)
    (hne : T ≠ I ∧ R ≠ I ∧ c2 ≠ I ∧ c1 ≠ I)
    (hI : IsLI oI R (j + 1)) (ha : ns[j]? = some a) (hts : IntsAre ts told) (ht : told = runT (ns.take j) []) (hp : told.all (fun d => !mult d a) = true) (hS : Same fs told) (hfs : fs.length ≤ j)
    (ok : ∀ (k : Nat) (x' : Value) (h' : Heap) (tk : Nat) (news : List (Addr × Obj)), Fr h₀ L h' m → News h₀ L h' news → k < ns.length - j → (∀ m' : Str → Option Value, m' "first" = some x' → m' "told" = some (.ref T) → m' "left" = some (.ref x) → J1 us ns I T R c2 c1 o2 o1 k m' news) → Q x' { s with heap := h', toks := tk }) :
    wpAny (model PP w) A (call (.builtin "next") [.ref x, .int 0 d]) Q E s := by
  refine law1_next (fs := f :: fs) F N hX₀ T₀ hA hf hk hh hdp hi (.tail _ (.tail _ (.tail _ (.tail _ (.tail _ (.head _)))))) (.tail _ (.tail _ (.tail _ (.tail _ (.tail _ (.tail _ (.head _))))))) (by simp) (by simp) (by simp) hne hI ⟨x, dx, b, S, so, v, rfl, by simp, by simp, by simp, by simp, hs, hc.turn ?_⟩ ha (ints_snoc hts) ht hp (same_after hS (.inr ⟨f, rfl, hsf⟩)) (by simp; omega) ok
  intro p hp hcl
  simp only [List.mem_cons] at hp ⊢
  rcases hp with rfl | rfl | rfl | rfl | rfl | hp
  · simp
  · exact absurd rfl hcl
  · simp
  · simp
  · simp
  · simp [hp]
end
end Mine
namespace Mine
/-- no smaller divisor stands ahead -/
def noDiv (ahead : List Int) (a : Int) : Bool := (ahead.filter fun d => decide (d < a) && decide (a.fmod d = 0)).isEmpty
def dueK (ns : List Int) : Nat → List Int
  | 0 => []
  | i + 1 => match ns[i]? with
    | some a => if noDiv (ns.take i) a then dueK ns i ++ [a] else dueK ns i
    | none => dueK ns i
theorem allLt_ne {d x : Nat} : ∀ {own : List (Addr × Obj)}, AllLt d own → d ≤ x → ∀ p ∈ own, p.1 ≠ x
  | [], _, _, _, hp => nomatch hp
  | q :: r, h, hx, p, hp => by
    rcases List.mem_cons.mp hp with rfl | hp
    · exact Nat.ne_of_lt (Nat.lt_of_lt_of_le h.1 hx)
    · exact allLt_ne h.2 hx p hp
theorem dueK_len (ns : List Int) : ∀ i, (dueK ns i).length ≤ i
  | 0 => Nat.le_refl _
  | i + 1 => by
    have ih := dueK_len ns i
    unfold dueK
    cases ns[i]? with
    | none => exact Nat.le_succ_of_le ih
    | some a =>
      dsimp only
      split
      · rw [List.length_append, List.length_singleton]; omega
      · omega
inductive J2 (us : List Value) (ns : List Int) (I DU T R c2 c1 : Addr) (oT o1 : Obj) (m₀ : Str → Option Value) : Nat → (Str → Option Value) → List (Addr × Obj) → Prop
  | mk {i k : Nat} {ys : List Value} {dn : Nat} {o2 : Obj} {own : List (Addr × Obj)} {v : Option Value} : i ≤ ns.length → k = ns.length - i → OwnOff own [I, DU, T, R, c2, c1] → IntsAre ys (dueK ns i) → o2.data = .cell v →
      J2 us ns I DU T R c2 c1 oT o1 m₀ k m₀ ((I, rangeIterObj (i : Int) ((ns.length : Int) - i) 1) :: (DU, listOf (List.toArray ys) dn) :: (T, oT) :: (R, listOf us.toArray 0) :: (c2, o2) :: (c1, o1) :: own)
section
variable {prog : Program} {w : World} {A : Around} {E : Value → Shared → Prop} {s : Shared} {h₀ : Heap} {L : Addr} {m : Str → Option Value} {news own : List (Addr × Obj)}
theorem law1_for {env : Env} {x : Str} {body : List Stmt} {Q : Flow → Shared → Prop} {us : List Value} {ns : List Int} {I r DU T R c2 c1 : Addr} {ro oT o2 o1 : Obj} {v : Option Value}
    (F : Fr h₀ L s.heap m) (N : News h₀ L s.heap ((I, rangeIterObj 0 (Builtin.Range.rangeSize 0 (ns.length : Int) 1) 1) :: (r, ro) :: (DU, listOf #[] 0) :: (T, oT) :: (R, listOf us.toArray 0) :: (c2, o2) :: (c1, o1) :: own))
    (off : OwnOff own [T, R, c2, c1]) (l1 : @LT.lt Nat _ T DU ∧ @LT.lt Nat _ R DU ∧ @LT.lt Nat _ c2 DU ∧ @LT.lt Nat _ c1 DU ∧ AllLt DU own) (l2 : @LT.lt Nat _ DU r ∧ @LT.lt Nat _ T r ∧ @LT.lt Nat _ R r ∧ @LT.lt Nat _ c2 r ∧ @LT.lt Nat _ c1 r ∧ AllLt r own) (l3 : @LT.lt Nat _ r I ∧ @LT.lt Nat _ DU I ∧ @LT.lt Nat _ T I ∧ @LT.lt Nat _ R I ∧ @LT.lt Nat _ c2 I ∧ @LT.lt Nat _ c1 I ∧ AllLt I own) (hd : o2.data = .cell v) (hh : A.handled = none)
    (turn : ∀ (i : Nat) (a : Int) (ys : List Value) (dn : Nat) (t : Tok) (o2 : Obj) (own : List (Addr × Obj)) (v : Option Value) (h : Heap) (tk : Nat), ns[i]? = some a → i < ns.length → IntsAre ys (dueK ns i) → ys.length ≤ i → OwnOff own [I, DU, T, R, c2, c1] → o2.data = .cell v → Fr h₀ L h m →
      News h₀ L h ((I, rangeIterObj ((i : Int) + 1) ((ns.length : Int) - i - 1) 1) :: (DU, listOf (List.toArray ys) dn) :: (T, oT) :: (R, listOf us.toArray 0) :: (c2, o2) :: (c1, o1) :: own) →
      wpAny (model prog w) A (storeName env x (.int i t)) (fun _ s₃ => wpAny (model prog w) A (execs body env) (FPost h₀ L (J2 us ns I DU T R c2 c1 oT o1 m) (ns.length - i) s Q) E s₃) E { s with heap := h, toks := tk })
    (done : ∀ (ys : List Value) (dn : Nat) (own : List (Addr × Obj)) (h : Heap) (tk : Nat), IntsAre ys (dueK ns ns.length) → Fr h₀ L h m →
      News h₀ L h ((DU, listOf (List.toArray ys) dn) :: (T, oT) :: own) → Q .next { s with heap := h, toks := tk }) :
    ForAt prog w A E h₀ L env x body Q (.ref I) s := by
  have offI : ∀ p ∈ own, p.1 ≠ I := allLt_ne l3.2.2.2.2.2.2 (Nat.le_refl _)
  have offD : ∀ p ∈ own, p.1 ≠ DU := allLt_ne l1.2.2.2.2 (Nat.le_refl _)
  have hr : r ≠ I ∧ r ≠ DU ∧ r ≠ T ∧ r ≠ R ∧ r ≠ c2 ∧ r ≠ c1 := ⟨Nat.ne_of_lt l3.1, Nat.ne_of_gt l2.1, Nat.ne_of_gt l2.2.1, Nat.ne_of_gt l2.2.2.1, Nat.ne_of_gt l2.2.2.2.1, Nat.ne_of_gt l2.2.2.2.2.1⟩
  have hI : DU ≠ I ∧ T ≠ I ∧ R ≠ I ∧ c2 ≠ I ∧ c1 ≠ I := ⟨Nat.ne_of_lt l3.2.1, Nat.ne_of_lt l3.2.2.1, Nat.ne_of_lt l3.2.2.2.1, Nat.ne_of_lt l3.2.2.2.2.1, Nat.ne_of_lt l3.2.2.2.2.2.1⟩
  have hsz : Builtin.Range.rangeSize 0 (ns.length : Int) 1 = (ns.length : Int) - (0 : Nat) := by rw [rangeSize_one]; split <;> omega
  rw [hsz] at N
  refine ⟨J2 us ns I DU T R c2 c1 oT o1 m, ns.length, m, (I, rangeIterObj (0 : Nat) ((ns.length : Int) - (0 : Nat)) 1) :: (DU, listOf (List.toArray []) 0) :: (T, oT) :: (R, listOf us.toArray 0) :: (c2, o2) :: (c1, o1) :: (r, ro) :: own, F, ?_, ?_, ?_⟩
  · intro p hp
    refine N p ?_
    simp only [List.mem_cons] at hp ⊢
    rcases hp with h | h | h | h | h | h | h | h
    · exact .inl h
    · exact .inr (.inr (.inl h))
    · exact .inr (.inr (.inr (.inl h)))
    · exact .inr (.inr (.inr (.inr (.inl h))))
    · exact .inr (.inr (.inr (.inr (.inr (.inl h)))))
    · exact .inr (.inr (.inr (.inr (.inr (.inr (.inl h))))))
    · exact .inr (.inl h)
    · exact .inr (.inr (.inr (.inr (.inr (.inr (.inr h))))))
  · refine .mk (Nat.zero_le _) (by omega) ?_ .nil hd
    intro p hp b hb
    rcases List.mem_cons.mp hp with rfl | hp
    · simp only [List.mem_cons, List.not_mem_nil, or_false] at hb
      rcases hb with rfl | rfl | rfl | rfl | rfl | rfl
      · exact hr.1
      · exact hr.2.1
      · exact hr.2.2.1
      · exact hr.2.2.2.1
      · exact hr.2.2.2.2.1
      · exact hr.2.2.2.2.2
    · rcases List.mem_cons.mp hb with rfl | hb
      · exact offI p hp
      · rcases List.mem_cons.mp hb with rfl | hb
        · exact offD p hp
        · exact off p hp b hb
  · intro k m' news h tk J F' N'
    cases J with
    | mk hi hk hoff hys hd' =>
      rename_i i ys dn o2' own' v'
      subst hk
      have hne : ∀ p ∈ (DU, listOf (List.toArray ys) dn) :: (T, oT) :: (R, listOf us.toArray 0) :: (c2, o2') :: (c1, o1) :: own', p.1 ≠ I := by
        intro p hp
        simp only [List.mem_cons] at hp
        rcases hp with rfl | rfl | rfl | rfl | rfl | hp
        · exact hI.1
        · exact hI.2.1
        · exact hI.2.2.1
        · exact hI.2.2.2.1
        · exact hI.2.2.2.2
        · exact hoff p hp I (.head _)
      refine next_range_N (pre := []) F' N' ⟨(fun _ hp => nomatch hp), hne⟩ hh ?_ ?_
      · intro hpos h' tk' t F'' N''
        have hlt : i < ns.length := by omega
        have := turn i ns[i] ys dn t o2' own' v' h' tk' (List.getElem?_eq_getElem hlt) hlt hys (by rw [IntsAre.length hys]; exact dueK_len ns i) hoff hd' F'' N''
        exact this
      · intro hneg h' F'' N''
        have hi' : i = ns.length := by omega
        subst hi'
        exact done ys dn _ h' tk hys F'' N''
theorem dueK_yes {ns : List Int} {i : Nat} {a : Int} (ha : ns[i]? = some a) (h : decide ((ns.take i).filter (fun d => decide (d < a) && decide (a.fmod d = 0)) = []) = true) : dueK ns (i + 1) = dueK ns i ++ [a] := by
  have h' := of_decide_eq_true h
  show (match ns[i]? with | some a => if noDiv (ns.take i) a then dueK ns i ++ [a] else dueK ns i | none => dueK ns i) = _
  rw [ha]
  dsimp only
  rw [if_pos (by unfold noDiv; rw [h']; rfl)]
theorem dueK_no {ns : List Int} {i : Nat} {a : Int} (ha : ns[i]? = some a) (h : decide ((ns.take i).filter (fun d => decide (d < a) && decide (a.fmod d = 0)) = []) = false) : dueK ns (i + 1) = dueK ns i := by
  have h' := of_decide_eq_false h
  show (match ns[i]? with | some a => if noDiv (ns.take i) a then dueK ns i ++ [a] else dueK ns i | none => dueK ns i) = _
  rw [ha]
  dsimp only
  rw [if_neg]
  unfold noDiv
  intro q
  exact h' (List.isEmpty_iff.mp q)
theorem due_snoc {ns : List Int} {i : Nat} {a b : Int} {t : Tok} {ys : List Value} (ha : ns[i]? = some a) (hb : b = a) (h : decide ((ns.take i).filter (fun d => decide (d < a) && decide (a.fmod d = 0)) = []) = true) (hy : IntsAre ys (dueK ns i)) : IntsAre (ys ++ [.int b t]) (dueK ns (i + 1)) := by
  rw [dueK_yes ha h, hb]
  exact ints_snoc hy
theorem law1_for_end {Q : Flow → Shared → Prop} {us : List Value} {ns : List Int} {I DU T R c2 c1 x1 x2 x3 : Addr} {oT o2 o1 b1 b2 b3 : Obj} {v : Option Value} {i : Nat} {ys : List Value} {dn : Nat} {h' : Heap} {tk : Nat}
    (F : Fr h₀ L h' m) (N : News h₀ L h' ((x1, b1) :: (x2, b2) :: (x3, b3) :: (I, rangeIterObj ((i : Int) + 1) ((ns.length : Int) - i - 1) 1) :: (DU, listOf (List.toArray ys) dn) :: (T, oT) :: (R, listOf us.toArray 0) :: (c2, o2) :: (c1, o1) :: own))
    (hoff : OwnOff own [I, DU, T, R, c2, c1]) (l1 : @LT.lt Nat _ x2 x1 ∧ @LT.lt Nat _ x3 x1 ∧ @LT.lt Nat _ I x1 ∧ @LT.lt Nat _ DU x1 ∧ @LT.lt Nat _ T x1 ∧ @LT.lt Nat _ R x1 ∧ @LT.lt Nat _ c2 x1 ∧ @LT.lt Nat _ c1 x1 ∧ AllLt x1 own)
    (l2 : @Ne Nat x3 x2 ∧ @Ne Nat I x2 ∧ @Ne Nat DU x2 ∧ @Ne Nat T x2 ∧ @Ne Nat R x2 ∧ @Ne Nat c2 x2 ∧ @Ne Nat c1 x2 ∧ AllNe x2 own)
    (l3 : @LT.lt Nat _ I x3 ∧ @LT.lt Nat _ DU x3 ∧ @LT.lt Nat _ T x3 ∧ @LT.lt Nat _ R x3 ∧ @LT.lt Nat _ c2 x3 ∧ @LT.lt Nat _ c1 x3 ∧ AllLt x3 own)
    (hys : IntsAre ys (dueK ns (i + 1))) (hi : i < ns.length) (hd : o2.data = .cell v) :
    FPost h₀ L (J2 us ns I DU T R c2 c1 oT o1 m) (ns.length - i) s Q .next { s with heap := h', toks := tk } := by
  refine ⟨ns.length - (i + 1), m, (I, rangeIterObj ((i + 1 : Nat) : Int) ((ns.length : Int) - ((i + 1 : Nat) : Int)) 1) :: (DU, listOf (List.toArray ys) dn) :: (T, oT) :: (R, listOf us.toArray 0) :: (c2, o2) :: (c1, o1) :: (x1, b1) :: (x2, b2) :: (x3, b3) :: own, h', tk, by omega, rfl, F, ?_, ?_⟩
  · have e1 : ((i : Int) + 1) = ((i + 1 : Nat) : Int) := by omega
    have e2 : ((ns.length : Int) - i - 1) = (ns.length : Int) - ((i + 1 : Nat) : Int) := by omega
    rw [e1, e2] at N
    intro p hp
    refine N p ?_
    simp only [List.mem_cons] at hp ⊢
    rcases hp with h | h | h | h | h | h | h | h | h | h
    · exact .inr (.inr (.inr (.inl h)))
    · exact .inr (.inr (.inr (.inr (.inl h))))
    · exact .inr (.inr (.inr (.inr (.inr (.inl h)))))
    · exact .inr (.inr (.inr (.inr (.inr (.inr (.inl h))))))
    · exact .inr (.inr (.inr (.inr (.inr (.inr (.inr (.inl h)))))))
    · exact .inr (.inr (.inr (.inr (.inr (.inr (.inr (.inr (.inl h))))))))
    · exact .inl h
    · exact .inr (.inl h)
    · exact .inr (.inr (.inl h))
    · exact .inr (.inr (.inr (.inr (.inr (.inr (.inr (.inr (.inr h))))))))
  · refine .mk (by omega) rfl ?_ hys hd
    intro p hp b hb
    rcases List.mem_cons.mp hp with rfl | hp
    · simp only [List.mem_cons, List.not_mem_nil, or_false] at hb
      rcases hb with rfl | rfl | rfl | rfl | rfl | rfl
      · exact Nat.ne_of_gt l1.2.2.1
      · exact Nat.ne_of_gt l1.2.2.2.1
      · exact Nat.ne_of_gt l1.2.2.2.2.1
      · exact Nat.ne_of_gt l1.2.2.2.2.2.1
      · exact Nat.ne_of_gt l1.2.2.2.2.2.2.1
      · exact Nat.ne_of_gt l1.2.2.2.2.2.2.2.1
    rcases List.mem_cons.mp hp with rfl | hp
    · simp only [List.mem_cons, List.not_mem_nil, or_false] at hb
      rcases hb with rfl | rfl | rfl | rfl | rfl | rfl
      · exact Ne.symm l2.2.1
      · exact Ne.symm l2.2.2.1
      · exact Ne.symm l2.2.2.2.1
      · exact Ne.symm l2.2.2.2.2.1
      · exact Ne.symm l2.2.2.2.2.2.1
      · exact Ne.symm l2.2.2.2.2.2.2.1
    rcases List.mem_cons.mp hp with rfl | hp
    · simp only [List.mem_cons, List.not_mem_nil, or_false] at hb
      rcases hb with rfl | rfl | rfl | rfl | rfl | rfl
      · exact Nat.ne_of_gt l3.1
      · exact Nat.ne_of_gt l3.2.1
      · exact Nat.ne_of_gt l3.2.2.1
      · exact Nat.ne_of_gt l3.2.2.2.1
      · exact Nat.ne_of_gt l3.2.2.2.2.1
      · exact Nat.ne_of_gt l3.2.2.2.2.2.1
    · exact hoff p hp b hb
end
end Mine
namespace Mine
theorem runT_mono : ∀ (xs told : List Int) (t : Int), t ∈ told → t ∈ runT xs told
  | [], _, _, h => h
  | x :: r, told, t, h => by
    rw [runT]
    refine runT_mono r _ t ?_
    split
    · exact List.mem_append_left _ h
    · exact h
theorem runT_sub : ∀ (xs told : List Int) (t : Int), t ∈ runT xs told → t ∈ xs ∨ t ∈ told
  | [], _, _, h => .inr h
  | x :: r, told, t, h => by
    rw [runT] at h
    rcases runT_sub r _ t h with h | h
    · exact .inl (.tail _ h)
    · split at h
      · rcases List.mem_append.mp h with h | h
        · exact .inr h
        · rcases List.mem_cons.mp h with rfl | h
          · exact .inl (.head _)
          · cases h
      · exact .inr h
theorem runT_cover : ∀ (xs told : List Int) (d : Int), d ∈ xs → ∃ t ∈ runT xs told, t = d ∨ mult t d = true
  | x :: r, told, d, h => by
    rw [runT]
    rcases List.mem_cons.mp h with rfl | h
    · by_cases hc : told.all (fun t => !mult t d) = true
      · rw [if_pos hc]
        exact ⟨d, runT_mono _ _ _ (List.mem_append_right _ (.head _)), .inl rfl⟩
      · rw [if_neg hc]
        have : ∃ t ∈ told, mult t d = true := by
          simpa using hc
        obtain ⟨t, ht, hm⟩ := this
        exact ⟨t, runT_mono _ _ _ ht, .inr hm⟩
    · exact runT_cover r _ d h
theorem mult_iff {d x : Int} (h : 2 ≤ d ∧ d ≤ 21) (hx : 2 ≤ x ∧ x ≤ 21) : mult d x = true ↔ d < x ∧ d ∣ x := by
  rw [mult_facts' d x h hx, Bool.and_eq_true, decide_eq_true_iff, decide_eq_true_iff, Int.dvd_iff_fmod_eq_zero]
theorem all_noDiv {xs : List Int} {a : Int} (hx : ∀ x ∈ xs, 2 ≤ x ∧ x ≤ 21) (ha : 2 ≤ a ∧ a ≤ 21) : (runT xs []).all (fun d => !mult d a) = noDiv xs a := by
  rw [Bool.eq_iff_iff]
  have e1 : ((runT xs []).all (fun d => !mult d a) = true) ↔ ∀ t ∈ runT xs [], ¬ mult t a = true := by simp
  have e2 : (noDiv xs a = true) ↔ ∀ d ∈ xs, ¬ mult d a = true := by
    unfold noDiv
    rw [List.isEmpty_iff, List.filter_eq_nil_iff]
    constructor
    · intro h d hd
      have := h d hd
      rwa [← mult_facts' d a (hx d hd) ha] at this
    · intro h d hd
      rw [← mult_facts' d a (hx d hd) ha]
      exact h d hd
  have hin : ∀ t ∈ runT xs [], t ∈ xs := fun t ht => by
    rcases runT_sub xs [] t ht with h | h
    · exact h
    · cases h
  rw [e1, e2]
  constructor
  · intro h d hd hm
    obtain ⟨t, ht, hc⟩ := runT_cover xs [] d hd
    rcases hc with rfl | hc
    · exact h t ht hm
    · have m1 := (mult_iff (hx t (hin t ht)) (hx d hd)).mp hc
      have m2 := (mult_iff (hx d hd) ha).mp hm
      exact h t ht ((mult_iff (hx t (hin t ht)) ha).mpr ⟨by omega, Int.dvd_trans m1.2 m2.2⟩)
  · intro h t ht
    exact h t (hin t ht)
theorem law1_due {ns : List Int} (h : ∀ x ∈ ns, 2 ≤ x ∧ x ≤ 21) : ∀ i, i ≤ ns.length → dueK ns i = runT (ns.take i) []
  | 0, _ => by simp [dueK, runT]
  | i + 1, hi => by
    have ih := law1_due h i (by omega)
    have ha : ns[i]? = some ns[i] := List.getElem?_eq_getElem (by omega)
    show (match ns[i]? with | some a => if noDiv (ns.take i) a then dueK ns i ++ [a] else dueK ns i | none => dueK ns i) = _
    rw [List.take_add_one, ha, runT_append]
    dsimp only
    show _ = runT [ns[i]] (runT (ns.take i) [])
    rw [runT, runT, all_noDiv (fun x hx => h x (List.mem_of_mem_take hx)) (h _ (List.getElem_mem _)), ih]
theorem law1_plain {ns : List Int} (h : ∀ x ∈ ns, 2 ≤ x ∧ x ≤ 21) : decide (runT ns [] = dueK ns ns.length) = true := by
  rw [law1_due h ns.length (Nat.le_refl _), List.take_length]
  exact decide_eq_true rfl
end Mine
namespace Mine
/-- a goal at which the walk is to stand -/
def Halt (P : Prop) : Prop := P
section
variable {w : World} {A : Around} {E : Value → Shared → Prop} {s : Shared} {h₀ : Heap} {L : Addr} {m : Str → Option Value} {news own : List (Addr × Obj)}
theorem law1_loopH {env : Env} {test : PySem.Expr} {body : List Stmt} {pos : Pos} {Q : Flow → Shared → Prop} {us : List Value} {ns : List Int} {I T R c2 c1 : Addr} {o2 o1 : Obj} {n : Nat}
    (F : Fr h₀ L s.heap m) (N : News h₀ L s.heap news) (hj : J1 us ns I T R c2 c1 o2 o1 n m news)
    (h : Halt (wpAny (model PP w) A (exec (.While test body [] pos) env) Q E s)) : wpAny (model PP w) A (exec (.While test body [] pos) env) Q E s := h
end
theorem row_facts (ws : List Int) : (∀ x ∈ ws.map (fun k' : Int => (2 : Int) + (if k' < 0 then -k' else k').fmod 20) ++ rangeInts 2 1 (22 - 2 : Int).toNat, 2 ≤ x ∧ x ≤ 21) ∧ (ws.map (fun k' : Int => (2 : Int) + (if k' < 0 then -k' else k').fmod 20) ++ rangeInts 2 1 (22 - 2 : Int).toNat).length = ws.length + 20 := by
  constructor
  · intro x hx
    rcases List.mem_append.mp hx with hx | hx
    · obtain ⟨k, _, rfl⟩ := List.mem_map.mp hx
      have h1 := Int.fmod_nonneg_of_pos (if k < 0 then -k else k) (by decide : (0 : Int) < 20)
      have h2 := Int.fmod_lt_of_pos (if k < 0 then -k else k) (by decide : (0 : Int) < 20)
      omega
    · have : ∀ y ∈ rangeInts 2 1 (22 - 2 : Int).toNat, 2 ≤ y ∧ y ≤ 21 := by decide +kernel
      exact this x hx
  · rw [List.length_append, List.length_map, rangeInts_length]
    rfl
theorem row_abs {vs : List Value} {ws : List Int} (h : IntsAre vs (ws.map (fun k' : Int => (2 : Int) + (if k' < 0 then -k' else k').fmod 20) ++ rangeInts 2 1 (22 - 2 : Int).toNat)) (hl : ¬ ((63 : Nat) : Int) < ((ws.length : Nat) : Int)) :
    ∃ ns, IntsAre vs ns ∧ (∀ x ∈ ns, 2 ≤ x ∧ x ≤ 21) ∧ ns.length ≤ 83 := ⟨_, h, (row_facts ws).1, by rw [(row_facts ws).2]; omega⟩
end Mine
open Mine
local macro_rules | `(tactic| walk_at "binaryOp Add ref ref") => `(tactic| (k_here; k_dflt (refine' add_made ?F ?N ?a ?P ?i ?j ?_ ?z; (case F => k_asm); (case N => k_asm); (case a => kmk_list); (case P => assumption); (case i => l_ints); (case j => assumption); (case z => ((have hb1' := len_ints_list (by lay_of)); (simp only [sizeLine_eq, List.length_map, rangeInts_length]); omega))); intro D' ws' h' F' N' l1 hI'; (try k_lt l1); (try k_sweep)))
local macro_rules | `(tactic| walk_at "call builtin:iter") => `(tactic| (k_here; k_dflt (refine' iter_list_N ?F ?N ?l ?_; (case F => k_asm); (case N => k_asm); (case l => kmk_list)); intro I' h' F' N' l1; (try k_lt l1); (try k_sweep)))
local macro_rules | `(tactic| walk_at "call builtin:iter") => `(tactic| (k_here; k_dflt (refine' iter_chain_N ?F ?N ?X ?T ?l ?m ?c ?s ?d ?u ?_; (case F => k_asm); (case N => k_asm); (case X => k_asm); (case T => k_asm); (case l => assumption); (case c => assumption); (case m => k_mem); (case s => (intro p hp; repeat (first | exact hp | refine List.mem_cons_of_mem _ ?_))); (case d => k_room); (case u => exact Nat.le_of_ble_eq_true rfl)); intro h' tk' F' N'; (try k_sweep)))
local macro_rules | `(tactic| walk_at "call type:range") => `(tactic| (k_here; (with_reducible show wpAny _ _ (call _ [_, _, _]) _ _ _); k_dflt (refine' range3_N ?F ?N ?c ?p ?_; (case F => k_asm); (case N => k_asm); (case c => omega); (case p => exact PyProof.noPylong_small (by omega))); intro r' h' tk' t1' u1' v1' F' N' l1; (try k_lt l1); (try k_sweep)))
local macro_rules | `(tactic| walk_at "call type:set") => `(tactic| (k_here; k_dflt (refine' set_rangeM ?F ?N ?m ?h ?f ?_; (case F => k_asm); (case N => k_asm); (case m => k_mem); (case h => exact rfl); (case f => exact range_facts' _ (by assumption))); intro S' so' h' tk' F' N' l1 hs'; (try k_lt l1); (try k_sweep)))
local macro_rules | `(tactic| walk_at "getAttr ref") => `(tactic| (k_here; (with_reducible show wpAny _ _ (getAttr _ (Str.ofString "__contains__") _) _ _ _); k_dflt (refine' getAttr_has_N ?F ?N ?m ?s ?_; (case F => k_asm); (case N => k_asm); (case m => k_mem); (case s => assumption)); intro b' h' F' N' l1; (try k_lt l1); (try k_sweep)))
local macro_rules | `(tactic| walk_at "call builtin:list.append") => `(tactic| (k_here; k_dflt (refine' append_N ?F ?N ?U ?z ?_; (case F => k_asm); (case N => k_asm); (case U => k_upd); (case z => omega)); intro h' F' N'; (try k_sweep)))
local macro_rules | `(tactic| walk_at "eval Name") => `(tactic| (k_here; k_dflt (refine' nameX_L ?F ?v ?_ ?a ?b; (case F => k_asm); (case a => rfl); (case b => rfl); (case v => assumption); k_whole)))
local macro_rules | `(tactic| walk_at "exec While Compare cons nil") => `(tactic| (refine law1_loopH (by k_asm) (by k_asm) (by first | exact (by assumption : ∀ m' : Str → Option Value, m' "first" = some _ → m' "told" = some _ → m' "left" = some _ → J1 _ _ _ _ _ _ _ _ _ _ m' _) _ rfl rfl rfl) ?_))
local macro_rules | `(tactic| walk_at "setAttr ref") => `(tactic| (k_here; k_dflt (refine' set_slot ?k1 ?k2 ?k3 ?k4 ?k5 ?k6 ?k7 ?k8 ?k9 ?k10 ?k11 ?k12 ?k13 ?_; (case k1 => k_asm); (case k2 => k_asm); (case k3 => k_asm); (case k4 => k_inst); (case k5 => k_is); (case k6 => k_is); (case k7 => k_is); (case k8 => k_is); (case k9 => k_is); (case k10 => decide); (case k11 => k_slotset); (case k12 => exact rfl); (case k13 => (refine Upd.head ?_; rename _ < _ ∧ _ => q; (iterate 9 (refine List.forall_mem_cons.mpr ⟨by k_ne, ?_⟩)); repeat (first | exact allLt_ne q (by omega) | replace q := q.2))); k_whole; intro h' F' N'; (try k_sweep))))
local macro_rules | `(tactic| walk_at "exec For Name Call cons nil") => `(tactic| (k_here; (rename Fr _ _ _ _ => lF'); (with_unfolding_all refine For_N lF' ?_)))
local macro_rules | `(tactic| walk_at "call type:range") => `(tactic| (k_here; (with_reducible show wpAny _ _ (call _ [_]) _ _ _); k_dflt (refine' range1_M ?F ?N ?_; (case F => k_asm); (case N => k_asm)); intro r' h' tk' t1' u1' v1' F' N' l1; (try k_lt l1); (try k_sweep)))
local macro_rules | `(tactic| walk_at "pyIter ref") => `(tactic| (k_here; (with_reducible show wpAny _ _ (pyIter (Value.ref _)) (ForAt _ _ _ _ _ _ _ _ _ _) _ _); k_dflt (refine' iter_range_N ?F ?N ?r ?s ?_; (case F => k_asm); (case N => k_asm); (case r => exact News.get (by k_asm) (by k_mem)); (case s => exact small_one (by omega) (by omega) (by omega) (by omega))); intro I' h' F' N' l1; (try k_lt l1); (try k_sweep)))
local macro_rules | `(tactic| walk_at "eval ListComp") => `(tactic| (k_here; (with_reducible show wpAny _ _ (eval (Expr.ListComp (Expr.Name _ _) _ _ _) _) _ _ _); k_dflt (refine Comp_N (by k_asm) (by with_unfolding_all rfl) (by decide) (by rfl) (by decide) (by rfl) ?_)))
local macro_rules | `(tactic| walk_at "eval Name") => `(tactic| (k_here; (with_reducible show wpAny _ _ (eval (Expr.Name _ _) (compEnvC _ _ _ _)) _ _ _); k_dflt (refine' name_comp ?F ?v ?_ ?a ?b; (case F => k_asm); (case a => rfl); (case b => rfl); (case v => assumption); k_whole)))
theorem PySem.Challenge.cw_kn0115_01_holds : PySem.Challenge.rw_kn0115_01.Holds := by
  refine Mine.hd ?_
  k_go0
  all_goals try k_fold
  k_steps
  rename Fr _ _ _ _ => F1
  rename News _ _ _ _ => N1
  rename IntsAre _ (_ ++ _) => hI1
  obtain ⟨ns, hns, hrow, hlen⟩ := row_abs hI1 (by assumption)
  clear hI1
  refine law1_first F1 N1 (by assumption) (topRead_of (by assumption)) rfl rfl (by show ScopeKind.function ≠ ScopeKind.module; decide) rfl (by k_room) hns (by omega) (by omega) ?_
  clear F1 N1
  intro k0 v0 h0 tk0 news0 F0 N0 J0
  k_steps
  rename Fr _ _ _ _ => F2
  rename News _ _ _ _ => N2
  unfold Halt
  refine law1_loop F2 N2 (J0 _ rfl rfl rfl) ?_ ?_
  · clear F2 N2 J0
    intro m h tk oI a t v j fs ts tn told own e1 e2 e3 off hli hc ha hts htold hS hp hfs F3 N3
    have ha2 := hrow a (List.mem_of_getElem? ha)
    have htl : ts.length ≤ 1000 := by have := told_len hts htold hlen; omega
    k_steps
    · rename Fr _ _ _ _ => F1
      rename News _ _ _ _ => N1
      rename (told.any _) = true => hany
      refine law1_old hc F1 N1 (by assumption) (topRead_of (by assumption)) rfl rfl (by show ScopeKind.function ≠ ScopeKind.module; decide) rfl (by rw [depth_deeper, depth_caller]; unfold recursionLimit; omega) hns ⟨by k_ne, by k_ne, by k_ne, by k_ne⟩ hli ha hts htold hp hS (mem_of_any hany) hfs ?_
      clear F1 N1
      intro k' x' h' tk' news' F1 N1 hk' hJ'
      k_steps
      rename Fr _ _ _ _ => F1
      rename News _ _ _ _ => N1
      exact ⟨k', _, _, _, _, hk', rfl, F1, N1, hJ' _ rfl e2 e3⟩
    · rename Fr _ _ _ _ => F1
      rename News _ _ _ _ => N1
      rename IsHas _ _ => hhas
      refine law1_new hc F1 N1 (by assumption) (topRead_of (by assumption)) hhas (fun _ => rfl) rfl rfl (by show ScopeKind.function ≠ ScopeKind.module; decide) rfl (by rw [depth_deeper, depth_caller]; unfold recursionLimit; omega) hns ⟨by k_ne, by k_ne, by k_ne, by k_ne⟩ hli ha hts htold hp hS hfs ?_
      clear F1 N1
      intro k' x' h' tk' news' F1 N1 hk' hJ'
      k_steps
      rename Fr _ _ _ _ => F1
      rename News _ _ _ _ => N1
      exact ⟨k', _, _, _, _, hk', rfl, F1, N1, hJ' _ rfl e2 rfl⟩
    · exfalso; omega
  · clear F2 N2 J0
    intro m h tk t ts tn own e1 e2 off hts F3 N3
    k_steps
    rename Fr _ _ _ _ => F1
    rename News _ _ _ _ => N1
    refine law1_for F1 N1 off (by assumption) (by assumption) (by assumption) (by assumption) rfl ?_ ?_
    · clear F1 N1
      intro i a ys dn t o2 own' v h tk ha hi hys hyl hoff hd2 F1 N1
      k_steps
      rename Fr _ _ _ _ => F1
      rename News _ _ _ _ => N1
      rename IntsAre _ _ => hI1
      refine comp_ints (fun d => decide (d < a) && decide (a.fmod d = 0)) F1 N1 (by k_mem) hI1 (by rw [IntsAre.length hI1]; omega) rfl rfl (fun _ => rfl) (by decide) ?_ ?_
      rotate_left
      · clear F1 N1
        intro C d td h tk m₃ E' g dd os hd F1 N1 hm3
        have hg : ns.getD ((i : Int).toNat) 0 = a := by rw [Int.toNat_natCast, List.getD_eq_getElem?_getD, ha]; rfl
        have hd2 := hrow d (List.mem_of_mem_take hd)
        have ha2 := hrow a (List.mem_of_getElem? ha)
        k_steps
        all_goals first | exact ⟨_, _, rfl, fun _ _ e => e⟩ | (simp only [hg] at *; simp [*]; done) | skip
      · clear F1 N1
        intro D ys' n' h tk F1 N1 hne hys'
        have hg : ns.getD ((i : Int).toNat) 0 = a := by rw [Int.toNat_natCast, List.getD_eq_getElem?_getD, ha]; rfl
        have l9 := allNe_of hne
        simp only [AllNe, and_true] at l9
        simp only [Int.toNat_natCast] at hys'
        k_steps
        · rename Fr _ _ _ _ => F1
          rename News _ _ _ _ => N1
          exact law1_for_end F1 N1 hoff (by assumption) (by assumption) (by assumption) (due_snoc ha hg (by assumption) hys) hi (by assumption)
        · rename Fr _ _ _ _ => F1
          rename News _ _ _ _ => N1
          refine law1_for_end F1 N1 hoff (by assumption) (by assumption) (by assumption) ?_ hi (by assumption)
          rw [dueK_no ha (by assumption)]
          exact hys
    · clear F1 N1
      intro ys dn own' h tk hys F1 N1
      k_steps
      rw [law1_plain hrow]
      wrow_close
