import PyProof.Rows.All
import Wide.All
import OpenK.AllK
import Wide.FinOn
import Lean
import PySem.Challenge.RW_kn0115_03
open PySem PySem.W PySem.Calls PyProof.Rows
set_option Elab.async false
set_option maxRecDepth 100000
set_option maxHeartbeats 8000000
namespace Mine
open_top hd for PySem.Challenge.rw_kn0115_03
end Mine
namespace Mine

abbrev boundHas (S : Addr) : Obj := { cls := .type "builtin_function_or_method", data := .fields #[.builtin "set.__contains__", .ref S] }

theorem slot_set_has : Slot "set" "__contains__" "set.__contains__" :=
  .of (owner := "set") (n := "__contains__") (by rw [typeLookup_type, builtinLookup_eq_fast]; kernel_rfl) (by decide +kernel) (by decide +kernel) (by decide +kernel)
    (by first | exact .inl (by decide +kernel) | exact .inr (by decide +kernel)) (by rw [isSubtype_type]; kernel_rfl)
theorem slot_set_ga : Slot "set" "__getattribute__" "set.__getattribute__" :=
  .of (owner := "set") (n := "__getattribute__") (by rw [typeLookup_type, builtinLookup_eq_fast]; kernel_rfl) (by decide +kernel) (by decide +kernel) (by decide +kernel)
    (by first | exact .inl (by decide +kernel) | exact .inr (by decide +kernel)) (by rw [isSubtype_type]; kernel_rfl)
theorem slot_md_get : Slot "method_descriptor" "__get__" "method_descriptor.__get__" :=
  .of (owner := "method_descriptor") (n := "__get__") (by rw [typeLookup_type, builtinLookup_eq_fast]; kernel_rfl) (by decide +kernel) (by decide +kernel) (by decide +kernel)
    (by first | exact .inl (by decide +kernel) | exact .inr (by decide +kernel)) (by rw [isSubtype_type]; kernel_rfl)
theorem type_set_has : typeOf (.builtin "set.__contains__") = pure (.type "method_descriptor") := by show builtinType _ = _; rw [builtinType_eq_fast]; kernel_rfl
theorem entry_set_ga : entryFor table "set.__getattribute__" = some Builtin.«object.__getattribute__» :=
  entryFor_alias (id' := "object.__getattribute__") (by rw [fastTable_eq_tree]; kernel_rfl) (by first | rfl | decide +kernel) (by decide +kernel) (by rw [fastTable_eq_tree]; kernel_rfl)
theorem entry_md_get : entryFor table "method_descriptor.__get__" = some Builtin.«method_descriptor.__get__» := by first | exact entryFor_of_fast (by kernel_rfl) | exact entryFor_of_tree (by kernel_rfl)
theorem entry_set_has : entryFor table "set.__contains__" = some Builtin.«frozenset.__contains__» :=
  entryFor_alias (id' := "frozenset.__contains__") (by rw [fastTable_eq_tree]; kernel_rfl) (by first | rfl | decide +kernel) (by decide +kernel) (by rw [fastTable_eq_tree]; kernel_rfl)
theorem args_set_ga (a b : Value) : argsOk "set.__getattribute__" ⟨[a, b], []⟩ := by unfold argsOk; kernel_rfl
theorem args_md_get (a b c : Value) : argsOk "method_descriptor.__get__" ⟨[a, b, c], []⟩ := by unfold argsOk; kernel_rfl
end Mine
namespace Mine
section
variable {prog : Program} {w : World} {A : Around} {E : Value → Shared → Prop} {s : Shared}

theorem md_get_set {S : Addr} {Q : Fin → Shared → Prop} (hT : s.TypeIs (.ref S) "set")
    (h : Q (.done (.ret (.ref s.heap.objs.size))) { s with heap := s.heap.push (boundHas S) }) :
    wpAny (model prog w) A (Builtin.«method_descriptor.__get__» ⟨[.builtin "set.__contains__", .ref S, .type "set"], []⟩) Q E s := by
  unfold Builtin.«method_descriptor.__get__»
  refine wpAny_bind (wpAny_of_eq (a := (.builtin "set.__contains__", some (.ref S), some (.type "set"))) (by first | rfl | kernel_rfl) ?_)
  dsimp only
  have ht : Manifest.toldItsClass.contains "set.__contains__" = false := by decide +kernel
  simp only [ht, Bool.false_eq_true, if_false]
  refine wpAny_bind (m := _) ?_
  refine wpAny_bind (m := _) ?_
  refine wpAny_of_eq (a := (("__contains__" : Str), Value.type "set")) (by first | rfl | kernel_rfl) ?_
  dsimp only
  refine wpAny_bind (wpAny_isInstance hT PySem.sub_set_self ?_)
  refine wpAny_pure ?_
  exact wpAny_bind (wpAny_newObj_type (wpAny_pure h))

theorem getAttr_set_has {S : Addr} {es ep t} {expr : Bool} {Q : Value → Shared → Prop} (ho : s.heap.get? S = some { cls := .type "set", data := .set es ep t })
    (h : Q (.ref s.heap.objs.size) { s with heap := s.heap.push (boundHas S), toks := s.toks + 1 }) :
    wpAny (model prog w) A (getAttr (.ref S) "__contains__" expr) Q E s := by
  have hT : s.TypeIs (.ref S) "set" := ⟨_, ho, rfl⟩
  unfold getAttr
  refine wpAny_bind (wpAny_mkText ?_)
  show wpAny _ _ (getAttrBy (.ref S) (.str "__contains__" s.toks) true expr) Q E { s with toks := s.toks + 1 }
  unfold getAttrBy
  refine wpAny_holding (wpAny_bind (wpAny_typeOf (s := { s with toks := s.toks + 1 }) hT ?_))
  refine wpAny_bind (wpAny_of_eq slot_set_ga.lookup ?_)
  dsimp only
  rw [if_neg (show ¬ ((onTheHeap (.type "set") && (Value.builtin "set.__getattribute__") == Value.builtin "object.__getattribute__") = true) from by decide)]
  unfold getAttrByItsOwn
  refine wpAny_bind (wpAny_of_eq (a := none) rfl ?_)
  refine wpAny_bind (wpAny_attempt (wpAny_holding ?_))
  unfold callGetattribute
  rw [if_neg (show ¬ ((expr && onTheHeap (.builtin "set.__getattribute__")) = true) from by simp [onTheHeap])]
  unfold boundAndCalled
  refine wpAny_bind (wpAny_of_eq (slot_set_ga.bind _) ?_)
  dsimp only
  refine wpAny_call_entry slot_set_ga (s := { s with toks := s.toks + 1 }) hT entry_set_ga ?_ (args_set_ga _ _)
  unfold Builtin.«object.__getattribute__»
  refine wpAny_bind (wpAny_of_eq (a := (Value.ref S, [Value.str (Str.ofString "__contains__") s.toks])) (by first | rfl | kernel_rfl) ?_)
  dsimp only
  refine wpAny_bind (wpAny_of_eq (a := ("__contains__" : Str)) (by first | rfl | kernel_rfl) ?_)
  refine wpAny_bind (wpAny_typeOf (s := { s with toks := s.toks + 1 }) hT ?_)
  unfold Builtin.ObjectAttr.find
  refine wpAny_bind (wpAny_bind (wpAny_of_eq slot_set_has.lookup ?_))
  unfold Builtin.ObjectAttr.getOf
  dsimp only
  refine wpAny_bind (wpAny_specialOf (T := "method_descriptor") (show Shared.TypeIs _ (.builtin "set.__contains__") _ from type_set_has) slot_md_get.lookup ?_)
  unfold Builtin.ObjectAttr.dataDescriptor?
  dsimp only
  have hmd : Shared.TypeIs { s with toks := s.toks + 1 } (.builtin "set.__contains__") "method_descriptor" := type_set_has
  have hset : typeLookup (.type "method_descriptor") "__set__" = pure none := by rw [typeLookup_type, builtinLookup_eq_fast]; kernel_rfl
  have hdel : typeLookup (.type "method_descriptor") "__delete__" = pure none := by rw [typeLookup_type, builtinLookup_eq_fast]; kernel_rfl
  refine wpAny_bind (wpAny_bind ?_)
  unfold Builtin.ObjectAttr.takesStores
  refine wpAny_bind (wpAny_specialOf hmd hset ?_)
  simp only [Option.isSome_none, Bool.false_eq_true, if_false]
  refine wpAny_bind (wpAny_specialOf hmd hdel ?_)
  refine wpAny_pure ?_
  simp only [Option.isSome_none, Bool.false_eq_true, if_false]
  refine wpAny_pure ?_
  dsimp only
  unfold Builtin.ObjectAttr.ownThenClass Builtin.ObjectAttr.inOwnDict Builtin.ObjectAttr.ownDict
  refine wpAny_bind (wpAny_bind (wpAny_bind (wpAny_loadPart ho ?_)))
  dsimp only
  unfold instanceDict
  refine wpAny_bind (wpAny_loadPart ho ?_)
  refine wpAny_pure ?_
  unfold Builtin.ObjectAttr.inDict
  refine wpAny_pure ?_
  dsimp only
  refine wpAny_bind (wpAny_of_eq (a := ()) (by first | rfl | kernel_rfl) ?_)
  unfold Builtin.ObjectAttr.byTheClass
  refine wpAny_bind (wpAny_rule ?_)
  refine wpAny_pure ?_
  dsimp only
  unfold Builtin.ObjectAttr.bindTo
  dsimp only
  refine wpAny_bind (wpAny_holding ?_)
  refine wpAny_call_entry slot_md_get (s := { s with toks := s.toks + 1 }) (show Shared.TypeIs _ (.builtin "set.__contains__") _ from type_set_has) entry_md_get ?_ (args_md_get _ _ _)
  refine md_get_set (s := { s with toks := s.toks + 1 }) hT ?_
  refine ⟨_, rfl, ?_⟩
  refine wpAny_pure ⟨_, rfl, ?_⟩
  exact wpAny_pure h
end
end Mine
namespace Mine
section
variable {prog : Program} {w : World} {A : Around} {E : Value → Shared → Prop} {s : Shared}

theorem check_bound_has {S : Addr} {v : Value} {Q : Unit → Shared → Prop} (hT : s.TypeIs (.ref S) "set") (hno : ∃ o es ep t, s.heap.get? S = some o ∧ o.data = .set es ep t) (h : Q () s) :
    wpAny (model prog w) A (checkBoundCall "set.__contains__" ⟨[.ref S, v], []⟩) Q E s := by
  unfold checkBoundCall
  have hsig : Manifest.signature? "set.__contains__" = some ⟨.oneArg, "set.__contains__", "__contains__", .self, [⟨"object", .posOnly, true⟩]⟩ := by kernel_rfl
  have hk : builtinKind "set.__contains__" = some .method := by decide +kernel
  rw [hsig, hk]
  dsimp only
  rw [if_neg (by decide)]
  have hmod : isSubtype (.type "set") (.type "module") = pure false := by rw [isSubtype_type]; kernel_rfl
  refine wpAny_bind (wpAny_isInstance hT hmod ?_)
  have hv : Manifest.varargsMethods.contains "set.__contains__" = false := by decide +kernel
  simp only [hv, Bool.or_false, Bool.false_eq_true, if_false]
  obtain ⟨o, es, ep, t, ho, hd⟩ := hno
  have hb : wpAny (model prog w) A (isType (.ref S)) (fun b s' => b = false ∧ s' = s) E s := by
    unfold isType
    dsimp only
    refine wpAny_bind (wpAny_loadPart ho ?_)
    rw [hd]
    exact wpAny_pure ⟨rfl, rfl⟩
  refine wpAny_bind (wpAny_mono hb ?_ (fun _ _ z => z))
  rintro b s' ⟨rfl, rfl⟩
  simp only [Bool.false_eq_true, if_false]
  refine wpAny_bind (wpAny_typeOf hT ?_)
  dsimp only
  exact wpAny_of_eq (by kernel_rfl) h

theorem call_bound {b S : Addr} {v : Value} {Q : Value → Shared → Prop} (hb : s.heap.get? b = some (boundHas S)) (hT : s.TypeIs (.ref S) "set") (hno : ∃ o es ep t, s.heap.get? S = some o ∧ o.data = .set es ep t)
    (h : wpAny (model prog w) A.in1 (Builtin.«frozenset.__contains__» ⟨[.ref S, v], []⟩) (fun fin s' => ∃ r, fin = .done (.ret r) ∧ Q r s') E s) :
    wpAny (model prog w) A (call (.ref b) [v]) Q E s := by
  refine wpAny_call (codeAny_of_tree ?_)
  show wpAny _ A.in1 (callAny (.ref b) _) _ _ _
  unfold callAny
  refine wpAny_bind (wpAny_load hb ?_)
  dsimp only
  rw [if_pos (by decide)]
  refine wpAny_bind (m := _) (check_bound_has hT hno ?_)
  refine wpAny_pure (And.intro (plainId_quiet slot_set_has.plain _) (codeAny_builtin entry_set_has ?_))
  rw [Around.under_plainId slot_set_has.plain _]
  refine wpAny_mono h (fun fin s' hf => ?_) fun _ _ z => z
  obtain ⟨r, rfl, hq⟩ := hf
  exact hq

/-- a call, by a name, of a bound method of a built-in: the keeper is the machine -/
theorem callWith_bm {M : Model} {pos : Pos} {u S : Addr} {first : List Value} {args : List (Bool × Sem Value)} {Q : Value → Shared → Prop} (hplain : args.any (·.1) = false)
    (h : wpAny M A (evalArgs (.ref u) true args []) (fun x s₁ => s₁.heap.get? u = some (boundHas S) ∧ wpAny M A (call (.ref u) (first ++ x.pos) x.kw) Q E s₁) E s) : wpAny M A (callWith pos (.ref u) first args []) Q E s := by
  unfold callWith
  refine wpAny_bind (wpAny_holding (wpAny_mono h (fun x s₁ h₁ => wpAny_bind (wpAny_standAt ?_)) fun _ _ x => x))
  obtain ⟨ho, hcall⟩ := h₁
  simp only [hplain, List.any_nil, Bool.or_false]
  refine wpAny_bind (m := keeperOf (.ref u)) ?_
  unfold keeperOf
  refine wpAny_bind (wpAny_load ho ?_)
  simp only [show (Value.type "builtin_function_or_method" != Value.type "method") = true by decide, show (Value.type "builtin_function_or_method" == Value.type "builtin_function_or_method" || Value.type "builtin_function_or_method" == Value.type "method-wrapper") = true by decide, if_true]
  refine wpAny_pure ?_
  exact wpAny_bind (wpAny_mono hcall (fun r s₂ hr => wpAny_bind (wpAny_holding (wpAny_point (wpAny_pure hr)))) fun _ _ x => x)
end
end Mine
namespace Mine
section
variable {prog : Program} {w : World} {A : Around} {E : Value → Shared → Prop} {s : Shared}
end
end Mine
namespace Mine
section
variable {prog : Program} {w : World} {A : Around} {E : Value → Shared → Prop} {s : Shared}

end
end Mine
namespace Mine
section
variable {prog : Program} {w : World} {A : Around} {E : Value → Shared → Prop} {s : Shared} {h₀ : Heap} {L : Addr} {m : Str → Option Value} {news : List (Addr × Obj)}
theorem News_keeps {h' : Heap} (N : News h₀ L s.heap news) (hk : ∀ b o, s.heap.get? b = some o → h'.get? b = some o) : News h₀ L h' news := fun p hp => ⟨hk _ _ (N p hp).1, (N p hp).2⟩
theorem News_new {h' : Heap} {a : Addr} {o : Obj} (F : Fr h₀ L s.heap m) (N : News h₀ L s.heap news) (hk : ∀ b o, s.heap.get? b = some o → h'.get? b = some o) (hge : s.heap.objs.size ≤ a) (ho : h'.get? a = some o) :
    News h₀ L h' ((a, o) :: news) := by
  intro p hp
  rcases List.mem_cons.mp hp with rfl | hp
  · refine ⟨ho, ?_, ?_⟩
    · obtain ⟨oL, _, _, hL, _⟩ := F.ns
      exact Nat.ne_of_gt (Nat.lt_of_lt_of_le (Heap.lt_size hL) hge)
    · cases hq : h₀.get? a with
      | none => rfl
      | some o' => exact absurd (Nat.lt_of_lt_of_le (Heap.lt_size (F.keep _ _ hq)) hge) (Nat.lt_irrefl _)
  · exact ⟨hk _ _ (N p hp).1, (N p hp).2⟩

theorem args_iter1 (a : Value) : argsOk "iter" ⟨[a], []⟩ := by unfold argsOk; kernel_rfl
theorem entry_iter : entryFor table "iter" = some Builtin.«iter» := by first | exact entryFor_of_fast (by kernel_rfl) | exact entryFor_of_tree (by kernel_rfl)
theorem iter_open {v : Value} {Q : Value → Shared → Prop} (h : wpAny (model prog w) A.in1 (pyIter v) Q E s) : wpAny (model prog w) A (call (.builtin "iter") [v]) Q E s := by
  refine call_function_entry (by decide +kernel) (by decide +kernel) entry_iter (args_iter1 _) ?_
  unfold Builtin.«iter»
  refine wpAny_bind (m := someArgs "iter" 1 2 _) (wpAny_of_eq (a := [v]) (by first | rfl | kernel_rfl) ?_)
  dsimp only
  exact wpAny_bind (wpAny_mono h (fun r s' hr => wpAny_pure ⟨_, rfl, hr⟩) fun _ _ z => z)
theorem iter_list_N {l : Addr} {items : Array Value} {Q : Value → Shared → Prop} (F : Fr h₀ L s.heap m) (N : News h₀ L s.heap news) (hl : s.heap.IsList l items)
    (h : ∀ I h', Fr h₀ L h' m → News h₀ L h' ((I, { cls := .type "list_iterator", data := .fields #[.ref l, .int 0 0] }) :: news) → (∀ p ∈ news, p.1 < I) → Q (.ref I) { s with heap := h' }) : wpAny (model prog w) A (call (.builtin "iter") [.ref l]) Q E s :=
  iter_open (wpAny_pyIter_list hl (h _ _ (F.push _) (N.push F _) fun p hp => Heap.lt_size (N p hp).1))
end
end Mine
namespace Mine
section
variable {prog : Program} {w : World} {A : Around} {E : Value → Shared → Prop} {s : Shared}
theorem entry_next : entryFor table "next" = some Builtin.«next» := by first | exact entryFor_of_fast (by kernel_rfl) | exact entryFor_of_tree (by kernel_rfl)
theorem args_next1 (a : Value) : argsOk "next" ⟨[a], []⟩ := by unfold argsOk; kernel_rfl
theorem args_next2 (a b : Value) : argsOk "next" ⟨[a, b], []⟩ := by unfold argsOk; kernel_rfl
/-- a thing whose class has a __next__ -/
def HasNext (M : Model) (v : Value) (h : Heap) : Prop := ∃ g, Looks M h (specialOf v "__next__") (some g)
theorem hasNext_listiter {M : Model} {it l : Addr} {i : Nat} {h : Heap} (hit : h.IsListIter it l i) : HasNext M (.ref it) h :=
  ⟨_, fun A Q E s k q => wpAny_specialOf (name := "__next__") (T := "list_iterator") (by obtain ⟨o, ho, hc, _⟩ := hit; exact ⟨o, k _ _ ho, hc⟩) PySem.slot_listiter_next.lookup q⟩
theorem next_open1 {v : Value} {Q : Value → Shared → Prop} (hn : HasNext (model prog w) v s.heap) (h : wpAny (model prog w) A.in1 (callSpecial? v "__next__") (fun r s' => ∃ x, r = some x ∧ Q x s') E s) :
    wpAny (model prog w) A (call (.builtin "next") [v]) Q E s := by
  obtain ⟨g, hg⟩ := hn
  refine call_function_entry (by decide +kernel) (by decide +kernel) entry_next (args_next1 _) ?_
  unfold Builtin.«next»
  refine wpAny_bind (m := someArgs "next" 1 2 _) (wpAny_of_eq (a := [v]) (by first | rfl | kernel_rfl) ?_)
  dsimp only
  refine wpAny_bind (hg.here ?_)
  rw [if_neg (by simp)]
  refine wpAny_bind (wpAny_mono h (fun r s' hr => ?_) fun _ _ z => z)
  obtain ⟨x, rfl, hq⟩ := hr
  exact wpAny_pure ⟨_, rfl, hq⟩
theorem next_open2 {v d : Value} {Q : Value → Shared → Prop} (hn : HasNext (model prog w) v s.heap) (h : wpAny (model prog w) A.in1 (pyNext v) (fun r s' => Q (r.getD d) s') E s) :
    wpAny (model prog w) A (call (.builtin "next") [v, d]) Q E s := by
  obtain ⟨g, hg⟩ := hn
  refine call_function_entry (by decide +kernel) (by decide +kernel) entry_next (args_next2 _ _) ?_
  unfold Builtin.«next»
  refine wpAny_bind (m := someArgs "next" 1 2 _) (wpAny_of_eq (a := [v, d]) (by first | rfl | kernel_rfl) ?_)
  dsimp only
  refine wpAny_bind (hg.here ?_)
  rw [if_neg (by simp)]
  exact wpAny_bind (wpAny_mono h (fun r s' hr => wpAny_pure ⟨_, rfl, hr⟩) fun _ _ z => z)

/-- the list iterator's own __next__, an item -/
theorem listiter_item {it l : Addr} {i : Nat} {items : Array Value} {x : Value} {Q : Option Value → Shared → Prop} (hit : s.heap.IsListIter it l i) (hl : s.heap.IsList l items) (hx : items[i]? = some x)
    (hQ : ∀ h', h'.IsListIter it l (i + 1) → Heap.SameBut it s.heap h' → Q (some x) { s with heap := h' }) : wpAny (model prog w) A (callSpecial? (.ref it) "__next__") Q E s := by
  obtain ⟨o, ho, hc, hd⟩ := id hit
  obtain ⟨ol, hol, _, nl, hdl⟩ := hl
  refine wpAny_callSpecial?_slot (name := Str.ofString "__next__") hit.typeIs PySem.slot_listiter_next (wpAny_call_entry PySem.slot_listiter_next hit.typeIs PySem.entry_listiter_next ?_ (PySem.args_listiter_next _))
  show wpAny _ _ (field (.ref it) 0 >>= _) _ _ s
  refine wpAny_bind (wpAny_field ho hd (x := .ref l) rfl ?_)
  show wpAny _ _ (if (Value.ref l == Value.none) = true then _ else _) _ _ s
  rw [if_neg (show ¬ ((Value.ref l == Value.none) = true) from Bool.false_ne_true)]
  show wpAny _ _ (field (.ref it) 1 >>= _) _ _ s
  refine wpAny_bind (wpAny_field ho hd (x := .int i 0) rfl ?_)
  show wpAny _ _ (seqItems? (.ref l) >>= _) _ _ s
  refine wpAny_bind (wpAny_seqItems hol hdl ?_)
  simp only [Int.toNat_natCast, hx]
  refine wpAny_bind (wpAny_setField ho hd (by simp) (wpAny_pure ⟨x, rfl, hQ _ ?_ (Heap.SameBut.update ..)⟩))
  exact ⟨_, Heap.get?_update_self _ ho (Obj.isFreed_of_fields (Obj.data_mapFields hd _)), (Obj.cls_mapFields ..).trans hc, by rw [Obj.data_mapFields hd]; simp [rawInt]⟩

/-- a new exception object, that no frame has been noted upon -/
structure FreshExc (h₁ h' : Heap) (e : Addr) (X : String) : Prop where
  keeps : ∀ b o, h₁.get? b = some o → h'.get? b = some o
  new : h₁.get? e = none
  there : ∃ oe vs a0, h'.get? e = some oe ∧ oe.cls = .type X ∧ oe.data = .fields vs ∧ vs[1]? = some .none ∧ vs[0]? = some a0
theorem get_none_of_le {h : Heap} {a : Addr} (hge : h.objs.size ≤ a) : h.get? a = none := by
  cases e : h.get? a with
  | none => rfl
  | some o => exact absurd (Heap.lt_size e) (Nat.not_lt.mpr hge)
/-- the list iterator's own __next__ at its end: a new StopIteration -/
theorem listiter_end {it l : Addr} {i : Nat} {items : Array Value} {Q : Option Value → Shared → Prop} (hh : A.handled = none) (hit : s.heap.IsListIter it l i) (hl : s.heap.IsList l items) (hx : items[i]? = none)
    (hE : ∀ h₁ h' e, Heap.SameBut it s.heap h₁ → FreshExc h₁ h' e "StopIteration" → E (.ref e) { s with heap := h' }) : wpAny (model prog w) A (callSpecial? (.ref it) "__next__") Q E s := by
  obtain ⟨o, ho, hc, hd⟩ := id hit
  obtain ⟨ol, hol, _, nl, hdl⟩ := hl
  refine wpAny_callSpecial?_slot (name := Str.ofString "__next__") hit.typeIs PySem.slot_listiter_next (wpAny_call_entry PySem.slot_listiter_next hit.typeIs PySem.entry_listiter_next ?_ (PySem.args_listiter_next _))
  show wpAny _ _ (field (.ref it) 0 >>= _) _ _ s
  refine wpAny_bind (wpAny_field ho hd (x := .ref l) rfl ?_)
  show wpAny _ _ (if (Value.ref l == Value.none) = true then _ else _) _ _ s
  rw [if_neg (show ¬ ((Value.ref l == Value.none) = true) from Bool.false_ne_true)]
  show wpAny _ _ (field (.ref it) 1 >>= _) _ _ s
  refine wpAny_bind (wpAny_field ho hd (x := .int i 0) rfl ?_)
  show wpAny _ _ (seqItems? (.ref l) >>= _) _ _ s
  refine wpAny_bind (wpAny_seqItems hol hdl ?_)
  simp only [Int.toNat_natCast, hx]
  refine wpAny_bind (wpAny_rule (wpAny_bind (wpAny_setField ho hd (by simp) ?_)))
  show wpAny _ _ (newExc (.type "StopIteration") [] >>= _) _ _ _
  refine wpAny_bind ?_
  simp only [newExc, newTuple]
  refine wpAny_bind (wpAny_newObj_type ?_ (by size_fits))
  refine wpAny_bind (m := firstArgMember _ _) (wpAny_of_eq (a := Value.none) (by first | rfl | (simp only [firstArgMember]; rfl)) ?_)
  refine wpAny_newObj_type ?_ (by size_fits)
  simp only [raiseNew]
  refine wpAny_bind (wpAny_handled ?_)
  rw [show A.in1.handled = none from hh]
  refine wpAny_bind (wpAny_pure (wpAny_throw ?_))
  refine hE (s.heap.update it (Obj.mapFields fun x => x.setIfInBounds 0 Value.none)) _ _ (Heap.SameBut.update ..) ⟨fun b o' e => Heap.get?_push_of_some _ (Heap.get?_push_of_some _ e), ?_, ?_⟩
  · exact get_none_of_le (by rw [Heap.size_push]; exact Nat.le_succ _)
  · exact ⟨_, _, _, Heap.get?_push_size _ rfl, rfl, rfl, by simp [Array.getElem?_append], by simp [Array.getElem?_append]; rfl⟩
end
end Mine
namespace Mine
abbrev framesOf (fr : List Env) : List Addr := fr.filterMap (·.frame)
/-- from the heap h, at a call, to h', where the exception flies out of it: what stood is as it was, but for I and the frames' slots -/
structure Raised (fr : List Env) (h h' : Heap) (I e : Addr) (X : String) : Prop where
  slots : ∀ b o, b ∈ framesOf fr → h.get? b = some o → ∃ sl, h'.get? b = some { o with slots := sl }
  state : (∃ h₁, (∀ b o, b ≠ I → h.get? b = some o → h₁.get? b = some o) ∧ FreshExc h₁ h' e X) ∨
    (∃ B a0, (∀ b o, b ∉ framesOf fr → b ≠ I → h.get? b = some o → B.get? b = some o) ∧ Heap.FlyingW B fr e (.type X) a0 h')
theorem Raised.keeps {fr : List Env} {h h' : Heap} {I e : Addr} {X : String} (R : Raised fr h h' I e X) {b : Addr} {o : Obj} (hb : b ∉ framesOf fr) (hI : b ≠ I) (ho : h.get? b = some o) : h'.get? b = some o := by
  rcases R.state with ⟨h₁, k, F⟩ | ⟨B, a0, k, F⟩
  · exact F.keeps b o (k b o hI ho)
  · exact F.1 b o (k b o hb hI ho)
theorem Raised.isExc {fr : List Env} {h h' : Heap} {I e : Addr} {X : String} (R : Raised fr h h' I e X) : ∃ o, h'.get? e = some o ∧ o.cls = .type X := by
  rcases R.state with ⟨h₁, k, F⟩ | ⟨B, a0, k, F⟩
  · obtain ⟨oe, vs, a0, he, hc, _⟩ := F.there
    exact ⟨oe, he, hc⟩
  · exact F.there

section
variable {M : Model} {A : Around} {E : Value → Shared → Prop} {s' : Shared}
theorem Raised.leave {env : Env} {fr : List Env} {L I e : Addr} {h h₂ base₀ : Heap} {X : String} {m : Str → Option Value} {Q : Unit → Shared → Prop} {oI oI2 : Obj} {vI vI2 : Array Value}
    (hfr : A.frames = some (env :: fr)) (hf : env.frame = some L) (hk : env.scope.kind ≠ .module) (hl : h.FunFrames base₀ fr) (hI : h.get? I = some oI) (hId : oI.data = .fields vI) (hI2 : h₂.get? I = some oI2) (hId2 : oI2.data = .fields vI2)
    (hL : h.get? L = none) (hn : h₂.Ns L m) (h12 : ∀ b o, b ≠ I → h.get? b = some o → h₂.get? b = some o) (R : Raised (env :: fr) h₂ s'.heap I e X)
    (hQ : ∀ h'', Raised fr h h'' I e X → Q () { s' with heap := h'' }) : wpAny M A (leaving env (.ref e)) Q E s' := by
  have hLI : L ≠ I := by rintro rfl; rw [hL] at hI; cases hI
  have hmem : framesOf (env :: fr) = L :: framesOf fr := by show List.filterMap _ _ = _; rw [List.filterMap_cons, hf]
  have frI : ∀ b ∈ framesOf fr, b ≠ I := by
    rintro b hb rfl
    obtain ⟨_, o, ho, hnf⟩ := hl.mem hb
    rw [hI] at ho; cases ho
    exact hnf _ hId
  have frO : ∀ b ∈ framesOf fr, ∃ o, h.get? b = some o ∧ h₂.get? b = some o ∧ ∀ vs, o.data ≠ .fields vs := by
    intro b hb
    obtain ⟨_, o, ho, hnf⟩ := hl.mem hb
    exact ⟨o, ho, h12 b o (frI b hb) ho, hnf⟩
  have notL : ∀ b o, h.get? b = some o → b ≠ L := by rintro b o e rfl; rw [hL] at e; cases e
  rcases R.state with ⟨h₃, k3, F⟩ | ⟨B, a0, kB, F⟩
  · -- the exception is new here
    have hl₂ : h₂.FunFrames base₀ fr := hl.of_keeps fun b o hb hnf => ⟨o, h12 b o (by rintro rfl; rw [hI] at hb; cases hb; exact hnf _ hId) hb, rfl⟩
    obtain ⟨oL, esL, epL, hoL, hdL, _⟩ := id hn
    have hl₃ : h₃.FunFrames base₀ fr := hl₂.of_keeps fun b o hb hnf => by
      by_cases q : b = I
      · exfalso
        subst q
        rw [hI2] at hb; cases hb
        exact hnf _ hId2
      · exact ⟨o, k3 b o q hb, rfl⟩
    have hn₃ : h₃.Ns L m := hn.at' fun o e => k3 L o hLI e
    have hin : ∀ env' ∈ fr, ∀ a, env'.frame = some a → a ∈ framesOf (env :: fr) := fun env' he a ha => by
      rw [hmem]; exact List.mem_cons_of_mem _ (List.mem_filterMap.mpr ⟨env', he, ha⟩)
    have H₃ : h₃.FunFrames (hideAll h₃ (framesOf (env :: fr))) (env :: fr) :=
      Heap.FunFrames.cons hk hf hn₃ (hideAll_none _ (by rw [hmem]; exact List.mem_cons_self)) (by
        have hh : ∀ (l : List Env), h₃.FunFrames base₀ l → (∀ env' ∈ l, ∀ a, env'.frame = some a → a ∈ framesOf (env :: fr)) → h₃.FunFrames (hideAll h₃ (framesOf (env :: fr))) l := fun l => funFrames_hide
        exact hh fr hl₃ hin)
    have H' := H₃.of_keeps fun b o hb _ => ⟨o, F.keeps b o hb, rfl⟩
    obtain ⟨oe, vs, a0, he, hc, hd, h1, h0⟩ := F.there
    have hen : (hideAll h₃ (framesOf (env :: fr))).get? e = none := by
      cases q : (hideAll h₃ (framesOf (env :: fr))).get? e with
      | none => rfl
      | some o => have := of_hideAll _ q; rw [F.new] at this; cases this
    refine wpAny_leaving_firstW hfr H' hf he (fun b o q => F.keeps b o (of_hideAll _ q)) hen hd h1 h0 fun h'' hLW => ?_
    obtain ⟨w1, ⟨_, _, w2⟩, w3, w4⟩ := hLW
    refine hQ h'' ⟨?_, .inr ⟨hideAll h₃ (framesOf (env :: fr)), a0, ?_, w1, hen, w2, by rw [← hc]; exact w3⟩⟩
    · intro b o hb ho
      obtain ⟨o', ho', ho2, hnf⟩ := frO b hb
      rw [ho] at ho'; cases ho'
      exact w4 b o (F.keeps b o (k3 b o (frI b hb) ho2)) hnf
    · intro b o hb hbI ho
      exact hideAll_get _ (k3 b o hbI (h12 b o hbI ho)) (by rw [hmem]; exact fun q => (List.mem_cons.mp q).elim (notL b o ho) hb)
  · -- it has been noted by an inner frame
    refine wpAny_leaves_onW hfr hf F fun h'' hfl hup => hQ h'' ⟨?_, .inr ⟨B, a0, ?_, hfl⟩⟩
    · intro b o hb ho
      obtain ⟨o', ho', ho2, hnf⟩ := frO b hb
      rw [ho] at ho'; cases ho'
      obtain ⟨sl, hs⟩ := R.slots b o (by rw [hmem]; exact List.mem_cons_of_mem _ hb) ho2
      obtain ⟨sl', hs'⟩ := hup b _ hs (by intro vs; exact hnf vs)
      exact ⟨sl', hs'⟩
    · intro b o hb hbI ho
      exact kB b o (by rw [hmem]; exact fun q => (List.mem_cons.mp q).elim (notL b o ho) hb) hbI (h12 b o hbI ho)
end
end Mine
namespace Mine
noncomputable abbrev KF (w : World) : Frag := hd.heap_39 w.params
abbrev PP : Program := PySem.Challenge.rw_kn0115_03.row.prog
abbrev ffObj (dx : Addr) (it : Value) (b : Addr) : Obj := { cls := .ref 47, dict := some dx, data := .plain, slots := #[some (.ref b), some it] }
theorem ffInst {h : Heap} {x dx : Addr} {it : Value} {b : Addr} (h1 : h.get? x = some (ffObj dx it b)) (h2 : h.get? dx = some (dictOf [] 0)) : InstAt h x (ffObj dx it b) 47 (some (dictOf [] 0)) := ⟨h1, rfl, rfl, h2⟩
section
variable {w : World} {A : Around} {E : Value → Shared → Prop} {s : Shared} {p : Program} {loose : List Str} {mg mb : Str → Option Value}

theorem get_func {x dx b : Addr} {it : Value} {expr : Bool} {Q : Value → Shared → Prop} (hX : (KF w).In s.heap) (h1 : s.heap.get? x = some (ffObj dx it b)) (h2 : s.heap.get? dx = some (dictOf [] 0)) (h : Q (.ref b) { s with toks := s.toks + 1 }) :
    wpAny (model PP w) A (getAttr (.ref x) "_func" expr) Q E s :=
  get_bind hX (ffInst h1 h2) (plainGet_of (name := "_it") (by kernel_rfl)).1 (findObj_data (a := .ref 48) (g := .builtin "member_descriptor.__get__") (by kernel_rfl) (by kernel_rfl) (by kernel_rfl) (by kernel_rfl)) (plainGet_of (name := "_func") (by kernel_rfl)).2
    (wpAny_call (slot_get (s := { s with toks := s.toks + 1 }) (i := 0) hX (ffInst h1 h2) (by kernel_rfl) rfl (handed_on rfl h)))
theorem get_it {x dx b : Addr} {it : Value} {expr : Bool} {Q : Value → Shared → Prop} (hX : (KF w).In s.heap) (h1 : s.heap.get? x = some (ffObj dx it b)) (h2 : s.heap.get? dx = some (dictOf [] 0)) (hi : handedIn it = true) (h : Q it { s with toks := s.toks + 1 }) :
    wpAny (model PP w) A (getAttr (.ref x) "_it" expr) Q E s :=
  get_bind hX (ffInst h1 h2) (plainGet_of (name := "_it") (by kernel_rfl)).1 (findObj_data (a := .ref 49) (g := .builtin "member_descriptor.__get__") (by kernel_rfl) (by kernel_rfl) (by kernel_rfl) (by kernel_rfl)) (plainGet_of (name := "_it") (by kernel_rfl)).2
    (wpAny_call (slot_get (s := { s with toks := s.toks + 1 }) (i := 1) hX (ffInst h1 h2) (by kernel_rfl) rfl (handed_on hi h)))
theorem next_name {env : Env} {pos : Pos} {Q : Value → Shared → Prop} (hX : (KF w).In s.heap) (T : TopRead p loose mg mb s.heap) (hk : env.scope.kind = .function) (hx : env.kindOf "next" = some .globalImplicit) (hg : env.globals = mainGlobals) (hb : env.builtins = builtinsNs) (h : Q (.builtin "next") s) :
    wpAny (model PP w) A (eval (.Name "next" pos) env) Q E s :=
  Name_function_global hk hx (loadGlobal_builtin (hg ▸ T.g) (mg_none_of hX T.g (by kernel_rfl)) (hb ▸ T.b) ((T.builtins _ (by decide)).trans (by boot_by_name)) h) (by decide)
theorem bool_name {env : Env} {pos : Pos} {Q : Value → Shared → Prop} (hX : (KF w).In s.heap) (T : TopRead p loose mg mb s.heap) (hk : env.scope.kind = .function) (hx : env.kindOf "bool" = some .globalImplicit) (hg : env.globals = mainGlobals) (hb : env.builtins = builtinsNs) (h : Q (.type "bool") s) :
    wpAny (model PP w) A (eval (.Name "bool" pos) env) Q E s :=
  Name_function_global hk hx (loadGlobal_builtin (hg ▸ T.g) (mg_none_of hX T.g (by kernel_rfl)) (hb ▸ T.b) ((T.builtins _ (by decide)).trans (by boot_by_name)) h) (by decide)
end
end Mine
namespace Mine
section
variable {w : World} {A : Around} {E : Value → Shared → Prop} {s : Shared} {p : Program} {loose : List Str} {mg mb : Str → Option Value}

theorem callWith_bm1 {M : Model} {pos : Pos} {u S : Addr} {e : PySem.Expr} {rest : List PySem.Expr} {env : Env} {Q : Value → Shared → Prop}
    (h : wpAny M A (spliced (backTo pos (starEach (e :: rest) env))) (fun vs s₁ => s₁.heap.get? u = some (boundHas S) ∧ wpAny M A (call (.ref u) vs) Q E s₁) E s)
    (he : starEach (e :: rest) env = (false, eval e env) :: starEach rest env := by rfl) (hplain : (backTo pos (starEach rest env)).any (·.1) = false := by rfl) :
    wpAny M A (callWith pos (.ref u) [] (backTo pos (starEach (e :: rest) env)) []) Q E s := by
  rw [he] at h ⊢
  exact callWith_bm (by show (false || (backTo pos (starEach rest env)).any (·.1)) = false; rw [hplain]; rfl) (evalArgs_plain h)

end
end Mine
namespace Mine
/-- the list iterator's object: it stands at i of l -/
def IsLI (o : Obj) (l : Addr) (i : Nat) : Prop := o.cls = .type "list_iterator" ∧ o.data = .fields #[.ref l, .int i 0]
theorem IsLI.at {h : Heap} {I l : Addr} {o : Obj} {i : Nat} (x : IsLI o l i) (ho : h.get? I = some o) : h.IsListIter I l i := ⟨o, ho, x.1, x.2⟩
section
variable {w : World} {A : Around} {E : Value → Shared → Prop} {s : Shared} {p : Program} {loose : List Str} {mg mb : Str → Option Value} {h₀ : Heap} {L : Addr} {m : Str → Option Value} {news own : List (Addr × Obj)}

theorem Fr.raised {env : Env} {h' : Heap} {I e : Addr} {X : String} (F : Fr h₀ L s.heap m) (hf : env.frame = some L) (hI₀ : h₀.get? I = none) (R : Raised [env] s.heap h' I e X) : Fr h₀ L h' m := by
  obtain ⟨oL, es, ep, hL, hd, r⟩ := F.ns
  obtain ⟨sl, hs⟩ := R.slots L oL (by simp [framesOf, hf]) hL
  refine ⟨⟨_, es, ep, hs, hd, r⟩, fun b o e => ?_, F.above⟩
  refine R.keeps ?_ (by rintro rfl; rw [hI₀] at e; cases e) (F.keep b o e)
  simp only [framesOf, List.filterMap_cons, hf, List.filterMap_nil, List.mem_singleton]
  exact Nat.ne_of_lt (Nat.lt_of_lt_of_le (Heap.lt_size e) F.above)

end
end Mine
namespace Mine
section
variable {w : World} {p : Program} {loose : List Str} {mg mb : Str → Option Value} {h : Heap}
end
end Mine
namespace Mine
section
variable {prog : Program} {w : World} {A : Around} {E : Value → Shared → Prop} {s : Shared} {h₀ : Heap} {L : Addr} {m : Str → Option Value} {news : List (Addr × Obj)}
def FEnd (h₀ : Heap) (L : Addr) (J : Nat → (Str → Option Value) → List (Addr × Obj) → Prop) (n : Nat) (s₁ s₃ : Shared) : Prop :=
  ∃ n' m' news' h' tk', n' < n ∧ s₃ = { s₁ with heap := h', toks := tk' } ∧ Fr h₀ L h' m' ∧ News h₀ L h' news' ∧ J n' m' news'
def FPost (h₀ : Heap) (L : Addr) (J : Nat → (Str → Option Value) → List (Addr × Obj) → Prop) (n : Nat) (s₁ : Shared) (Q : Flow → Shared → Prop) (f : Flow) (s₃ : Shared) : Prop :=
  match f with
  | .next | .cont => FEnd h₀ L J n s₁ s₃
  | .brk => Q .next s₃
  | .ret v => Q (.ret v) s₃
def FTurn (prog : Program) (w : World) (A : Around) (E : Value → Shared → Prop) (h₀ : Heap) (L : Addr) (env : Env) (x : Str) (body : List Stmt) (J : Nat → (Str → Option Value) → List (Addr × Obj) → Prop) (n : Nat) (Q : Flow → Shared → Prop) (s₁ : Shared) (r : Option Value) (s₂ : Shared) : Prop :=
  match r with
  | none => Q .next s₂
  | some y => wpAny (model prog w) A (storeName env x y) (fun _ s₃ => wpAny (model prog w) A (execs body env) (FPost h₀ L J n s₁ Q) E s₃) E s₂
/-- for x in ..: the walk stands behind the iter -/
def ForAt (prog : Program) (w : World) (A : Around) (E : Value → Shared → Prop) (h₀ : Heap) (L : Addr) (env : Env) (x : Str) (body : List Stmt) (Q : Flow → Shared → Prop) (it : Value) (s₁ : Shared) : Prop :=
  ∃ (J : Nat → (Str → Option Value) → List (Addr × Obj) → Prop) (n : Nat) (m : Str → Option Value) (news : List (Addr × Obj)), Fr h₀ L s₁.heap m ∧ News h₀ L s₁.heap news ∧ J n m news ∧
    ∀ n m news h tk, J n m news → Fr h₀ L h m → News h₀ L h news → wpAny (model prog w) A (pyNext it) (FTurn prog w A E h₀ L env x body J n Q s₁) E { s₁ with heap := h, toks := tk }
theorem For_N {env : Env} {x : Str} {px pos : Pos} {iter : PySem.Expr} {body : List Stmt} {Q : Flow → Shared → Prop} (_F : Fr h₀ L s.heap m)
    (h : wpAny (model prog w) A (eval iter env) (fun xv s₁ => wpAny (model prog w) A (pyIter xv) (ForAt prog w A E h₀ L env x body Q) E s₁) E s)
    (hs : ∀ x, foldedSetIterable iter env x = pure x := by intro _; rfl) (hE : PassesOwn (model prog w) A env E := by passes_own) :
    wpAny (model prog w) A (exec (.For (.Name x px) iter body [] pos) env) Q E s := by
  refine wpAny_For (wpAny_mono h (fun xv s₁ h₁ => wpAny_mono h₁ (fun it s₂ h₂ => ?_) fun _ _ z => z) fun _ _ z => z) hs
  obtain ⟨J, n, m', news', F', N', hj, turn⟩ := h₂
  refine codeAny_forLoop (R := fun r s' => match r with | .ok f => Q f s' | .error e => cameBackBy (model prog w) A env E e s') (fun k s' => ∃ m' news' h' tk', s' = { s₂ with heap := h', toks := tk' } ∧ Fr h₀ L h' m' ∧ News h₀ L h' news' ∧ J k m' news') ?_ n ⟨m', news', s₂.heap, s₂.toks, rfl, F', N', hj⟩
  rintro k s' ⟨m', news', h', tk', rfl, F', N', hj'⟩
  refine wpAny_passesOwn hE (wpAny_mono (turn k m' news' h' tk' hj' F' N') (fun r s₁ hr => ?_) fun _ _ z => z)
  cases r with
  | none => exact wpAny_execs_nil hr
  | some y =>
    refine wpAny_passesOwn hE (wpAny_assign_Name (wpAny_mono hr (fun _ s₃ h₃ => ?_) fun _ _ z => z))
    refine wpAny_passesOwn hE (wpAny_mono h₃ (fun f s₄ h₄ => ?_) fun _ _ z => z)
    have fin : FEnd h₀ L J k s₂ s₄ → ∃ m, m < k ∧ ∃ m' news' h' tk', s₄ = { s₂ with heap := h', toks := tk' } ∧ Fr h₀ L h' m' ∧ News h₀ L h' news' ∧ J m m' news' := by
      rintro ⟨n', m', news', h', tk', a, b, c, d, e⟩
      exact ⟨n', a, m', news', h', tk', b, c, d, e⟩
    cases f with
    | next => exact fin h₄
    | cont => exact fin h₄
    | brk => exact h₄
    | ret v => exact h₄

abbrev rangeIterObj (x left step : Int) : Obj := { cls := .type "range_iterator", dict := none, data := .fields #[rawInt x, rawInt left, rawInt step], slots := #[] }
theorem iter_range_N {r : Addr} {a b c : Int} {t u v : Tok} {Q : Value → Shared → Prop} (F : Fr h₀ L s.heap m) (N : News h₀ L s.heap news) (hr : IsRange s.heap r a b c t u v) (hsm : Builtin.Range.small a b c = true)
    (h : ∀ I h', Fr h₀ L h' m → News h₀ L h' ((I, rangeIterObj a (Builtin.Range.rangeSize a b c) c) :: news) → (∀ p ∈ news, p.1 < I) → Q (.ref I) { s with heap := h' }) : wpAny (model prog w) A (pyIter (.ref r)) Q E s := by
  refine wpAny_pyIter_range hr hsm ?_
  exact h _ _ (F.push _) (N.push F _) fun p hp => Heap.lt_size (N p hp).1
theorem next_range_N {I : Addr} {x left step : Int} {pre post : List (Addr × Obj)} {Q : Option Value → Shared → Prop} (F : Fr h₀ L s.heap m) (N : News h₀ L s.heap (pre ++ (I, rangeIterObj x left step) :: post)) (hne : (∀ p ∈ pre, p.1 ≠ I) ∧ ∀ p ∈ post, p.1 ≠ I) (hh : A.handled = none)
    (go : 0 < left → ∀ h' tk t, Fr h₀ L h' m → News h₀ L h' (pre ++ (I, rangeIterObj (x + step) (left - 1) step) :: post) → Q (some (.int x t)) { s with heap := h', toks := tk })
    (stop : left ≤ 0 → ∀ h', Fr h₀ L h' m → News h₀ L h' (pre ++ post) → Q none { s with heap := h' }) : wpAny (model prog w) A (pyNext (.ref I)) Q E s := by
  have hI := N (I, rangeIterObj x left step) (List.mem_append_right _ (.head _))
  rcases (by omega : 0 < left ∨ left ≤ 0) with hl | hl
  · refine wpAny_pyNext_range_item hI.1 hl fun h' hit hs => ?_
    exact go hl _ _ _ (F.change hs hI.2.1 hI.2.2) (N.setAt hne.1 hne.2 hs hit)
  · refine wpAny_pyNext_range_end hh hI.1 hl fun h' hx => ?_
    refine stop hl h' ?_ fun p hp => ?_
    · refine ⟨?_, fun b o e => hx _ _ ?_ (F.keep b o e), F.above⟩
      · exact F.ns.at' fun o e => hx _ _ (Ne.symm hI.2.1) e
      · rintro rfl; rw [hI.2.2] at e; cases e
    · have hp' := N p (by rcases List.mem_append.mp hp with q | q; exact List.mem_append_left _ q; exact List.mem_append_right _ (.tail _ q))
      refine ⟨hx _ _ ?_ hp'.1, hp'.2⟩
      rcases List.mem_append.mp hp with q | q
      · exact hne.1 p q
      · exact hne.2 p q
end
end Mine
namespace Mine
section
variable {prog : Program} {w : World} {A : Around} {E : Value → Shared → Prop} {s : Shared} {h₀ : Heap} {L : Addr} {m : Str → Option Value} {news : List (Addr × Obj)}
/-- a quiet test of a comprehension's turn -/
def QuietT (prog : Program) (w : World) (A : Around) (h₀ : Heap) (news : List (Addr × Obj)) (cenv : Addr → Env) (x : Str) (ifs : List PySem.Expr) (P : Value → Prop) (p : Value → Bool) : Prop :=
  ∀ C v h tk m₃ E' g d o, P v → Fr h₀ C h m₃ → News h₀ C h news → m₃ x = some v →
    wpAny (model prog w) A (forIn ifs true fun c r => if r = true then do let ok ← isTrue c (cenv C) (eval c (cenv C)); pure (ForInStep.yield ok) else pure (ForInStep.yield r)) (fun ok s₄ => ok = p v ∧ Keeps { heap := h, toks := tk, gens := g, drawn := d, os := o } s₄) E' { heap := h, toks := tk, gens := g, drawn := d, os := o }
def QuietE (prog : Program) (w : World) (A : Around) (h₀ : Heap) (news : List (Addr × Obj)) (cenv : Addr → Env) (x : Str) (elt : PySem.Expr) (P : Value → Prop) (p : Value → Bool) (R : Value → Value → Prop) : Prop :=
  ∀ C v h tk m₃ E' g d o, P v → p v = true → Fr h₀ C h m₃ → News h₀ C h news → m₃ x = some v →
    wpAny (model prog w) A (eval elt (cenv C)) (fun y s₄ => R v y ∧ Keeps { heap := h, toks := tk, gens := g, drawn := d, os := o } s₄) E' { heap := h, toks := tk, gens := g, drawn := d, os := o }
theorem quietT_one {cenv : Addr → Env} {x : Str} {ct : PySem.Expr} {P : Value → Prop} {p : Value → Bool}
    (h : ∀ C v h tk m₃ E' g d o, P v → Fr h₀ C h m₃ → News h₀ C h news → m₃ x = some v → wpAny (model prog w) A (isTrue ct (cenv C) (eval ct (cenv C))) (fun ok s₄ => ok = p v ∧ Keeps { heap := h, toks := tk, gens := g, drawn := d, os := o } s₄) E' { heap := h, toks := tk, gens := g, drawn := d, os := o }) :
    QuietT prog w A h₀ news cenv x [ct] P p := by
  intro C v h' tk m₃ E' g d o hv F N hm
  simp only [List.forIn_cons, List.forIn_nil, if_true]
  exact wpAny_bind (wpAny_bind (wpAny_mono (h C v h' tk m₃ E' g d o hv F N hm) (fun ok s₄ hk => wpAny_pure (wpAny_pure hk)) fun _ _ z => z))
def AllNe (d : Nat) : List (Addr × Obj) → Prop
  | [] => True
  | p :: r => @Ne Nat p.1 d ∧ AllNe d r
theorem allNe_of {d : Addr} : ∀ {l : List (Addr × Obj)}, (∀ p ∈ l, p.1 ≠ d) → AllNe d l
  | [], _ => trivial
  | p :: _, h => ⟨h p (.head _), allNe_of fun q hq => h q (.tail _ hq)⟩
theorem range1_M {Q : Value → Shared → Prop} {n : Int} {t : Tok} (F : Fr h₀ L s.heap m) (N : News h₀ L s.heap news)
    (h : ∀ r h' tk t₁ u₁ v₁, Fr h₀ L h' m → News h₀ L h' ((r, { cls := .type "range", dict := none, data := .fields #[.int 0 t₁, .int n u₁, .int 1 v₁], slots := #[] }) :: news) → (∀ p ∈ news, p.1 < r) → Q (.ref r) { s with heap := h', toks := tk }) :
    wpAny (model prog w) A (call (.type "range") [.int n t]) Q E s :=
  range1_rows F N (fun h' tk t₁ u₁ v₁ hr F' _ hk => h _ h' tk t₁ u₁ v₁ F' (News_new F N hk (Nat.le_refl _) hr) fun p hp => Heap.lt_size (N p hp).1)
end
end Mine
namespace Mine
section
variable {prog : Program} {w : World} {A : Around} {E : Value → Shared → Prop} {s : Shared} {h₀ : Heap} {L : Addr} {m : Str → Option Value} {news : List (Addr × Obj)}
theorem name_comp {env : Env} {scope : Scope} {cl : List (Str × Addr)} {C : Addr} {x : Str} {pos : Pos} {v : Value} {Q : Value → Shared → Prop} (F : Fr h₀ C s.heap m) (hv : m x = some v) (h : Q v s)
    (hk : (compEnvC scope cl C env).scope.kind = .function) (hx : (compEnvC scope cl C env).kindOf x = some .local) (hd : (x == ("__debug__" : Str)) = false := by decide) : wpAny (model prog w) A (eval (.Name x pos) (compEnvC scope cl C env)) Q E s :=
  wpAny_Name (wpAny_loadName_local hk hx F.ns hv h) hd
end
end Mine
namespace Mine
section
variable {prog : Program} {w : World} {A : Around} {E : Value → Shared → Prop} {s : Shared} {h₀ : Heap} {L : Addr} {m mg mb : Str → Option Value} {news : List (Addr × Obj)} {K : Frag} {p : Program} {loose : List Str}
theorem name_compB {env : Env} {scope : Scope} {cl : List (Str × Addr)} {C : Addr} {x : Str} {pos : Pos} {v : Value} {Q : Value → Shared → Prop} (F : Fr h₀ C s.heap m) (X : K.In h₀) (T : TopRead p loose mg mb h₀) (e : nsIn K mainGlobals x = some none) (hv : bootBuiltins x = some v) (hn : x ≠ "__name__") (h : Q v s)
    (hk : (compEnvC scope cl C env).scope.kind = .function) (hx : (compEnvC scope cl C env).kindOf x = some .globalImplicit) (hg : env.globals = mainGlobals) (hb : env.builtins = builtinsNs) (hd : (x == ("__debug__" : Str)) = false := by decide) : wpAny (model prog w) A (eval (.Name x pos) (compEnvC scope cl C env)) Q E s :=
  Name_function_global hk hx (loadGlobal_builtin (env := compEnvC scope cl C env) (by show s.heap.Ns env.globals mg; rw [hg]; exact T.g.keeps F.keep) (mg_none_of X T.g e) (by show s.heap.Ns env.builtins mb; rw [hb]; exact T.b.keeps F.keep) ((T.builtins x hn).trans hv) h) hd
end
end Mine
namespace Mine
section
variable {elt : PySem.Expr} {x : Str} {px : Pos} {iter ct : PySem.Expr} {y : Str} {py : Pos} {iter2 : PySem.Expr} {scope : Scope} {pos : Pos}
section
variable {prog : Program} {w : World} {A : Around} {E : Value → Shared → Prop} {R : Result → Shared → Prop} {s : Shared}
end
end
end Mine
namespace Mine
theorem ints_at {vs : List Value} {ns : List Int} (h : IntsAre vs ns) : ∀ (i : Nat) (v : Value), vs[i]? = some v → ∃ a t, v = .int a t ∧ ns[i]? = some a := by
  induction h with
  | nil => intro i v hv; simp at hv
  | cons n t _ ih =>
    intro i v hv
    cases i with
    | zero => simp at hv; subst hv; exact ⟨n, t, rfl, rfl⟩
    | succ i => simpa using ih i v (by simpa using hv)
section
variable {elt : PySem.Expr} {x : Str} {px : Pos} {iter ct : PySem.Expr} {y : Str} {py : Pos} {iter2 : PySem.Expr} {scope : Scope} {pos : Pos}
variable {prog : Program} {w : World} {A : Around} {E : Value → Shared → Prop} {s : Shared}
end
end Mine
namespace Mine
section
variable {prog : Program} {w : World} {A : Around} {E : Value → Shared → Prop} {s : Shared} {h₀ : Heap} {L : Addr} {m : Str → Option Value} {news : List (Addr × Obj)}
end
end Mine
namespace Mine
section
variable {prog : Program} {w : World} {A : Around} {E : Value → Shared → Prop} {s : Shared} {h₀ : Heap} {L : Addr} {m : Str → Option Value} {news news' : List (Addr × Obj)}
theorem append_G {D : Addr} {its : List Value} {n : Nat} {x : Value} {Q : Value → Shared → Prop} (F : Fr h₀ L s.heap m) (N : News h₀ L s.heap news) (U : Upd D (listOf its.toArray n) (listOf (its ++ [x]).toArray (n + 1)) news news') (hz : its.length ≤ 5000)
    (h : ∀ h', Fr h₀ L h' m → News h₀ L h' news' → Q .none { s with heap := h' }) : wpAny (model prog w) A (call (.builtin "list.append") [.ref D, x]) Q E s := by
  have e : (its ++ [x]).toArray = its.toArray.push x := by simp
  rw [e] at U
  exact append_K F N U h (by rw [sizeLine_eq]; simp; omega)
end
end Mine
namespace Mine
section
variable {prog : Program} {w : World} {A : Around} {E : Value → Shared → Prop} {s : Shared} {h₀ : Heap} {L : Addr} {m : Str → Option Value} {news : List (Addr × Obj)}
/-- a comprehension's end, plain or with its store -/
def CompFin (prog : Program) (w : World) (A : Around) (E : Value → Shared → Prop) (_h₀ : Heap) (_L : Addr) (use : Option (Value → Sem Unit)) (Q : Value → Shared → Prop) (s₁ : Shared) (_m : Str → Option Value) (_news : List (Addr × Obj)) (P : List Value → Prop) : Prop :=
  ∀ D C ys n h' tk m'', s₁.heap.get? D = none → s₁.heap.get? C = none → D ≠ C → h'.Ns C m'' → h'.get? D = some (listOf (List.toArray ys) n) → (∀ b o, s₁.heap.get? b = some o → h'.get? b = some o) → P ys →
    compPost (model prog w) A E use Q (.ref D) C (.ok .next) { s₁ with heap := h', toks := tk }
theorem fresh_ledger {h h'' : Heap} {D : Addr} {o : Obj} (F : Fr h₀ L h m) (N : News h₀ L h news) (hD : h.get? D = none) (keep : ∀ b o, h.get? b = some o → h''.get? b = some o) (ho : h''.get? D = some o) :
    News h₀ L h'' ((D, o) :: news) ∧ ∀ q ∈ news, q.1 ≠ D := by
  refine ⟨fun q hq => ?_, fun q hq e => ?_⟩
  · rcases List.mem_cons.mp hq with rfl | hq
    · refine ⟨ho, ?_, ?_⟩
      · rintro rfl
        obtain ⟨oL, _, _, hL, _⟩ := F.ns
        rw [hD] at hL; cases hL
      · cases e : h₀.get? D with
        | none => rfl
        | some o => rw [F.keep _ _ e] at hD; cases hD
    · exact ⟨keep _ _ (N q hq).1, (N q hq).2⟩
  · have := (N q hq).1
    rw [e, hD] at this; cases this
theorem compFin_store {env : Env} {y : Str} {py : Pos} {Q : Value → Shared → Prop} {s₁ : Shared} {P : List Value → Prop} (F : Fr h₀ L s₁.heap m) (N : News h₀ L s₁.heap news) (hL : env.locals = L) (hy : env.kindOf y = some .local)
    (hp : (env.scope.kind == .class || (env.scope.kind == .module && env.locals != env.globals)) = false)
    (h : ∀ D ys n h' tk, Fr h₀ L h' (fun z => if z = y then some (.ref D) else m z) → News h₀ L h' ((D, listOf (List.toArray ys) n) :: news) → (∀ q ∈ news, q.1 ≠ D) → P ys → Q .none { s₁ with heap := h', toks := tk }) :
    CompFin prog w A E h₀ L (some (assign (.Name y py) env)) Q s₁ m news P := by
  intro D C ys n h' tk m'' hD hC hDC hn hl hk hP
  subst hL
  have F' : Fr h₀ env.locals h' m := F.keeps hk
  have hLC : env.locals ≠ C := by
    rintro e
    obtain ⟨oL, _, _, hL, _⟩ := F.ns
    rw [e, hC] at hL; cases hL
  have hLD : D ≠ env.locals := by
    rintro e
    obtain ⟨oL, _, _, hL, _⟩ := F.ns
    rw [← e, hD] at hL; cases hL
  show wpAny _ A (assign (.Name y py) env (.ref D)) _ _ _
  refine wpAny_assign_Name (wpAny_storeName_local hy F'.ns (fun h₂ hn₂ hs₂ => ?_) hp)
  refine ⟨m'', hn.sameBut hs₂ (Ne.symm hLC), fun h₃ hs₃ => ?_⟩
  obtain ⟨N', hne⟩ := fresh_ledger F N hD hk hl
  have F₂ := F'.set hn₂ hs₂
  have N₂ := N'.set hs₂
  have hC0 : h₀.get? C = none := by
    cases e : h₀.get? C with
    | none => rfl
    | some o => rw [F.keep _ _ e] at hC; cases hC
  refine h D ys n h₃ _ (F₂.change hs₃ (Ne.symm hLC) hC0) (fun q hq => ⟨hs₃.extBut _ _ ?_ (N₂ q hq).1, (N₂ q hq).2⟩) hne hP
  rcases List.mem_cons.mp hq with rfl | hq
  · exact hDC
  · rintro e
    have := (N q hq).1
    rw [e, hC] at this; cases this
/-- [elt for x in l if ..]: the walk stands at the source -/
def CompAtU (use : Option (Value → Sem Unit)) (E : Value → Shared → Prop) (prog : Program) (w : World) (A : Around) (h₀ : Heap) (L : Addr) (env : Env) (scope : Scope) (cl : List (Str × Addr)) (x : Str) (ifs : List PySem.Expr) (elt : PySem.Expr) (Q : Value → Shared → Prop) (xv : Value) (s₁ : Shared) : Prop :=
  ∃ (ax : Addr) (vs : List Value) (m : Str → Option Value) (news : List (Addr × Obj)) (p : Value → Bool) (R : Value → Value → Prop), xv = .ref ax ∧ Fr h₀ L s₁.heap m ∧ News h₀ L s₁.heap news ∧ s₁.heap.IsList ax vs.toArray ∧ vs.length ≤ sizeLine ∧ A.handled = none ∧
    QuietT prog w A h₀ news (fun C => compEnvC scope cl C env) x ifs (· ∈ vs) p ∧ QuietE prog w A h₀ news (fun C => compEnvC scope cl C env) x elt (· ∈ vs) p R ∧
    CompFin prog w A E h₀ L use Q s₁ m news (fun ys => Paired R (vs.filter p) ys)
theorem CompU_N {env : Env} {elt iter : PySem.Expr} {x : Str} {px : Pos} {ifs : List PySem.Expr} {scope : Scope} {cl : List (Str × Addr)} {pos pos2 : Pos} {Q : Value → Shared → Prop} (F : Fr h₀ L s.heap m)
    (hclos : closureFor scope env = pure cl) (hcell : ∀ y ∈ scope.names, y.2 ≠ .cell) (hkind : scope.kind = .function)
    (hnames : ∀ y ∈ scope.names, y.2 = .local → scope.names.lookup y.1 = some .local) (hx : scope.names.lookup x = some .local)
    (use : Option (Value → Sem Unit)) (h : wpAny (model prog w) A (eval iter env) (CompAtU use E prog w A h₀ L env scope cl x ifs elt Q) E s)
    (hs : ∀ x, foldedSetIterable iter env x = pure x := by intro _; rfl) :
    wpAny (model prog w) A (comprehension (.ListComp elt [⟨.Name x px, iter, ifs, 0⟩] scope pos) scope env pos2 (newList []) false (eval iter env) use) Q E s := by
  refine wpAny_comprehension_free (use := use) rfl hs hclos hkind hnames (wpAny_mono h (fun xv s₁ h₁ => ?_) fun _ _ e => e)
  obtain ⟨ax, vs, m', news', p, R, rfl, F', N', hl, hsz, hh, ht, he, hQ⟩ := h₁
  have hax : ax < s₁.heap.objs.size := by obtain ⟨_, e, _⟩ := id hl; exact Heap.lt_size e
  have notI : ∀ b, b < s₁.heap.objs.size → b ∉ [s₁.heap.objs.size] := fun b hb hm => by
    rcases List.mem_cons.mp hm with e | hm
    · exact Nat.lt_irrefl _ (e ▸ hb)
    · cases hm
  refine wpAny_pyIter_list hl ?_
  have W := Walks.list (prog := prog) (w := w) hh s₁.heap.objs.size ax (Nat.ne_of_lt hax) vs.toArray
  have there : ∀ {s₃ : Shared}, (∀ b o, b ∉ [s₁.heap.objs.size] → (s₁.heap.push { cls := .type "list_iterator", data := .fields #[.ref ax, .int 0 0] }).get? b = some o → s₃.heap.get? b = some o) → ∀ b o, s₁.heap.get? b = some o → s₃.heap.get? b = some o :=
    fun k b o e => k b o (notI b (Heap.lt_size e)) (Heap.get?_push_of_some _ e)
  have inner : ∀ {C : Addr} {s₃ : Shared} {m₃ : Str → Option Value}, (s₁.heap.push { cls := .type "list_iterator", data := .fields #[.ref ax, .int 0 0] }).objs.size ≤ C → s₃.heap.Ns C m₃ →
      (∀ b o, b ∉ [s₁.heap.objs.size] → (s₁.heap.push { cls := .type "list_iterator", data := .fields #[.ref ax, .int 0 0] }).get? b = some o → s₃.heap.get? b = some o) → Fr h₀ C s₃.heap m₃ ∧ News h₀ C s₃.heap news' := by
    intro C s₃ m₃ hC hn hk
    have hsC : s₁.heap.objs.size ≤ C := Nat.le_trans (by rw [Heap.size_push]; exact Nat.le_succ _) hC
    refine ⟨⟨hn, fun b o e => there hk b o (F'.keep b o e), ?_⟩, fun q hq => ⟨there hk _ _ (N' q hq).1, ?_, (N' q hq).2.2⟩⟩
    · exact Nat.le_trans (Nat.le_trans F'.above (Nat.le_of_lt F'.ns.lt)) hsC
    · exact Nat.ne_of_lt (Nat.lt_of_lt_of_le (Heap.lt_size (N' q hq).1) hsC)
  have memv : ∀ {i : Nat} {v : Value}, vs.toArray[i]? = some v → v ∈ vs := fun h => by
    rw [List.getElem?_toArray] at h
    exact List.mem_of_getElem? h
  refine comp_block_walkC (RR := fun acc C => compPost (model prog w) A E use Q acc C) W (by simpa using hsz) p R hcell hkind hx ?_ ?_ ⟨?_, ?_⟩ ?_
  · exact ⟨⟨_, Heap.get?_push_size _ rfl, rfl, rfl⟩, hl.push _⟩
  · intro b hb
    show b < (s₁.heap.push _).objs.size
    rw [Heap.size_push]
    rcases List.mem_cons.mp hb with rfl | hb
    · exact Nat.lt_succ_self _
    · rcases List.mem_cons.mp hb with rfl | hb
      · exact Nat.lt_succ_of_lt hax
      · cases hb
  · intro C i v s₃ m₃ E' hC hP hn hm hold _
    obtain ⟨F₃, N₃⟩ := inner hC hn hold
    exact ht C v s₃.heap s₃.toks m₃ E' s₃.gens s₃.drawn s₃.os (memv hP) F₃ N₃ hm
  · intro C i v s₃ m₃ E' hC hP hp hn hm hold _
    obtain ⟨F₃, N₃⟩ := inner hC hn hold
    exact he C v s₃.heap s₃.toks m₃ E' s₃.gens s₃.drawn s₃.os (memv hP) hp F₃ N₃ hm
  · intro D C h' tk m'' ys vs' hD hC hDC hn hlD hpl hlen hP hF hk
    have hh₁ : ∀ b o, s₁.heap.get? b = some o → h'.get? b = some o := there (s₃ := { s₁ with heap := h' }) hk
    have hszp : (s₁.heap.push { cls := .type "list_iterator", data := .fields #[.ref ax, .int 0 0] }).objs.size = s₁.heap.objs.size + 1 := Heap.size_push ..
    have hDn : s₁.heap.get? D = none := by
      cases e : s₁.heap.get? D with
      | none => rfl
      | some o => rw [show (s₁.heap.push { cls := .type "list_iterator", data := .fields #[.ref ax, .int 0 0] }).get? D = some o from Heap.get?_push_of_some _ e] at hD; cases hD
    have hCn : s₁.heap.get? C = none := by
      cases e : s₁.heap.get? C with
      | none => rfl
      | some o => rw [show (s₁.heap.push { cls := .type "list_iterator", data := .fields #[.ref ax, .int 0 0] }).get? C = some o from Heap.get?_push_of_some _ e] at hC; cases hC
    have hv : vs' = vs := list_of_places (by simpa using hlen) hP
    subst hv
    obtain ⟨n, hD'⟩ := hpl
    exact hQ D C ys.toList n h' tk m'' hDn hCn hDC hn (by simpa using hD') hh₁ hF
end
end Mine
namespace Mine
theorem allLt_ne {d x : Nat} : ∀ {own : List (Addr × Obj)}, AllLt d own → d ≤ x → ∀ p ∈ own, p.1 ≠ x
  | [], _, _, _, hp => nomatch hp
  | q :: r, h, hx, p, hp => by
    rcases List.mem_cons.mp hp with rfl | hp
    · exact Nat.ne_of_lt (Nat.lt_of_lt_of_le h.1 hx)
    · exact allLt_ne h.2 hx p hp
section
variable {prog : Program} {w : World} {A : Around} {E : Value → Shared → Prop} {s : Shared} {h₀ : Heap} {L : Addr} {m : Str → Option Value} {news : List (Addr × Obj)}
theorem Comp_assign {env : Env} {elt iter : PySem.Expr} {x y : Str} {px py : Pos} {ifs : List PySem.Expr} {scope : Scope} {cl : List (Str × Addr)} {pos spos : Pos} {Q : Flow → Shared → Prop} (F : Fr h₀ L s.heap m)
    (hclos : closureFor scope env = pure cl) (hcell : ∀ y ∈ scope.names, y.2 ≠ .cell) (hkind : scope.kind = .function)
    (hnames : ∀ y ∈ scope.names, y.2 = .local → scope.names.lookup y.1 = some .local) (hx : scope.names.lookup x = some .local)
    (hsw : swapsWith (.ListComp elt [⟨.Name x px, iter, ifs, 0⟩] scope pos) (some (.Name y py)) spos.line env = pure true)
    (h : wpAny (model prog w) A (eval iter env) (CompAtU (some (assign (.Name y py) env)) E prog w A h₀ L env scope cl x ifs elt (fun _ s' => Q .next s')) E s)
    (hs : ∀ x, foldedSetIterable iter env x = pure x := by intro _; rfl) :
    wpAny (model prog w) A (exec (.Assign [.Name y py] (.ListComp elt [⟨.Name x px, iter, ifs, 0⟩] scope pos) spos) env) Q E s := by
  rw [exec_Assign_Name_used _ _ _ _ hsw]
  refine wpAny_bind (wpAny_standAt (wpAny_bind ?_))
  show wpAny _ A (do let _ ← comprehension (.ListComp elt [⟨.Name x px, iter, ifs, 0⟩] scope pos) scope env _ (newList []) false (eval iter env) (some (assign (.Name y py) env))) _ _ s
  refine wpAny_bind (wpAny_mono (CompU_N (Q := fun _ s' => Q .next s') F hclos hcell hkind hnames hx (some (assign (.Name y py) env)) h hs) (fun _ s' hq => wpAny_pure (wpAny_pure hq)) fun _ _ e => e)
end
end Mine
namespace Mine
section
variable {w : World} {A : Around} {E : Value → Shared → Prop} {s : Shared} {p : Program} {loose : List Str} {mg mb : Str → Option Value} {h₀ : Heap} {L : Addr} {m : Str → Option Value} {news own : List (Addr × Obj)}
end
section canon
variable {h₀ h : Heap} {L : Addr} {news : List (Addr × Obj)}
/-- the rest of the ledger, beside the addresses of a list -/
def beside (as : List Addr) (news : List (Addr × Obj)) : List (Addr × Obj) := news.filter fun q => decide (q.1 ∉ as)
theorem beside_off (as : List Addr) : OwnOff (beside as news) as := fun p hp b hb e => by
  have := (List.mem_filter.mp hp).2
  rw [decide_eq_true_eq] at this
  exact this (e ▸ hb)
theorem news_back (N : News h₀ L h news) {hd : List (Addr × Obj)} (hs : ∀ q ∈ hd, q ∈ news) : News h₀ L h (hd ++ beside (hd.map (·.1)) news) := fun q hq =>
  (List.mem_append.mp hq).elim (fun h => N q (hs q h)) fun h => N q (List.mem_filter.mp h).1
end canon
section
variable {w : World} {A : Around} {E : Value → Shared → Prop} {s : Shared} {p : Program} {loose : List Str} {mg mb : Str → Option Value} {h₀ : Heap} {L : Addr} {m : Str → Option Value} {news own : List (Addr × Obj)}
end
end Mine
namespace Mine
open SetTable
def Inc (xs : List Nat) : Prop := xs.Pairwise (· < ·)
theorem Inc.get_lt {xs : List Nat} (h : Inc xs) {a b : Nat} {u v : Nat} (hab : a < b) (ha : xs[a]? = some u) (hb : xs[b]? = some v) : u < v := by
  obtain ⟨h1, e1⟩ := List.getElem?_eq_some_iff.mp ha
  obtain ⟨h2, e2⟩ := List.getElem?_eq_some_iff.mp hb
  have := List.pairwise_iff_getElem.mp h a b h1 h2 hab
  rw [e1, e2] at this; exact this
theorem below_go (xs : Array Nat) (hx : Inc xs.toList) (j : Nat) : ∀ fuel lo hi, hi - lo ≤ fuel → lo ≤ hi → hi ≤ xs.size → (∀ i u, i < lo → xs[i]? = some u → u < j) → (∀ i u, hi ≤ i → xs[i]? = some u → j ≤ u) →
    ∃ p, below.go xs j fuel lo hi = p ∧ p ≤ xs.size ∧ (∀ i u, i < p → xs[i]? = some u → u < j) ∧ (∀ i u, p ≤ i → xs[i]? = some u → j ≤ u)
  | 0, lo, hi, hf, hl, hs, h1, h2 => by
    have : lo = hi := by omega
    subst this
    exact ⟨lo, rfl, hs, h1, h2⟩
  | fuel + 1, lo, hi, hf, hl, hs, h1, h2 => by
    unfold below.go
    by_cases hlt : lo < hi
    · rw [if_pos hlt]
      dsimp only
      have hm : (lo + hi) / 2 < xs.size := by omega
      have hget : xs[(lo + hi) / 2]? = some xs[(lo + hi) / 2] := Array.getElem?_eq_getElem hm
      have hgd : xs.getD ((lo + hi) / 2) j = xs[(lo + hi) / 2] := by rw [Array.getD_eq_getD_getElem?, hget]; rfl
      have tl : ∀ i, xs[i]? = xs.toList[i]? := fun i => by rw [Array.getElem?_toList]
      rw [hgd]
      by_cases hc : xs[(lo + hi) / 2] < j
      · rw [if_pos hc]
        refine below_go xs hx j fuel _ _ (by omega) (by omega) hs (fun i u hi' hu => ?_) h2
        rcases Nat.lt_or_ge i ((lo + hi) / 2) with h | h
        · have := hx.get_lt h (by rw [← tl]; exact hu) (by rw [← tl]; exact hget)
          omega
        · have e : i = (lo + hi) / 2 := by omega
          subst e
          rw [hget] at hu
          cases hu; exact hc
      · rw [if_neg hc]
        refine below_go xs hx j fuel _ _ (by omega) (by omega) (by omega) h1 (fun i u hi' hu => ?_)
        rcases Nat.lt_or_ge ((lo + hi) / 2) i with h | h
        · have := hx.get_lt h (by rw [← tl]; exact hget) (by rw [← tl]; exact hu)
          omega
        · have e : i = (lo + hi) / 2 := by omega
          subst e
          rw [hget] at hu
          cases hu; omega
    · rw [if_neg hlt]
      have : lo = hi := by omega
      subst this
      exact ⟨lo, rfl, hs, h1, h2⟩
theorem below_spec {xs : Array Nat} (hx : Inc xs.toList) (j : Nat) : below xs j ≤ xs.size ∧ (∀ i u, i < below xs j → xs[i]? = some u → u < j) ∧ (∀ i u, below xs j ≤ i → xs[i]? = some u → j ≤ u) := by
  obtain ⟨p, e, h1, h2, h3⟩ := below_go xs hx j xs.size 0 xs.size (by omega) (by omega) (by omega) (fun i u h => by omega) (fun i u h hu => by
    have := (Array.getElem?_eq_some_iff.mp hu).1
    omega)
  unfold below
  rw [e]
  exact ⟨h1, h2, h3⟩
theorem below_at {xs : Array Nat} (hx : Inc xs.toList) {i j : Nat} (h : xs[i]? = some j) : below xs j = i := by
  obtain ⟨h1, h2, h3⟩ := below_spec hx j
  rcases Nat.lt_trichotomy i (below xs j) with hl | hl | hl
  · have := h2 i j hl h
    omega
  · exact hl.symm
  · have hi : i < xs.size := (Array.getElem?_eq_some_iff.mp h).1
    have hg : xs[below xs j]? = some xs[below xs j] := Array.getElem?_eq_getElem (by omega)
    have a := h3 _ _ (Nat.le_refl _) hg
    have b := hx.get_lt hl (by rw [Array.getElem?_toList]; exact hg) (by rw [Array.getElem?_toList]; exact h)
    omega
theorem slot_live {t : SetTable} (hp : Inc t.place.toList) {i j : Nat} (h : t.place[i]? = some j) : t.slot j = .live i := by
  unfold SetTable.slot
  rw [below_at hp h]
  dsimp only
  rw [if_pos (by rw [h]; exact beq_self_eq_true _)]
theorem has_empty (j : Nat) : has #[] j = false := rfl
theorem slot_empty {t : SetTable} (hd : t.dummies = #[]) {j : Nat} (h : j ∉ t.place.toList) : t.slot j = .empty := by
  unfold SetTable.slot
  dsimp only
  rw [if_neg, hd, has_empty]
  · rfl
  · intro e
    have := eq_of_beq e
    exact h (by rw [← Array.getElem?_toList] at this; exact List.mem_of_getElem? this)
theorem slot_cases {t : SetTable} (hd : t.dummies = #[]) (hp : Inc t.place.toList) (j : Nat) : (j ∉ t.place.toList ∧ t.slot j = .empty) ∨ ∃ i, t.place[i]? = some j ∧ t.slot j = .live i := by
  by_cases h : j ∈ t.place.toList
  · obtain ⟨i, hi⟩ := List.mem_iff_getElem?.mp h
    rw [Array.getElem?_toList] at hi
    exact .inr ⟨i, hi, slot_live hp hi⟩
  · exact .inl ⟨h, slot_empty hd h⟩
theorem insertAt_toList {α : Type} (xs : Array α) (p : Nat) (x : α) (_hp : p ≤ xs.size) : (insertAt xs p x).toList = xs.toList.take p ++ x :: xs.toList.drop p := by
  unfold insertAt
  simp only [Array.toList_append, Array.toList_push, Array.toList_extract, List.extract_eq_take_drop, List.drop_zero, Nat.sub_zero, List.append_assoc, List.cons_append, List.nil_append]
  congr 2
  rw [List.take_of_length_le]
  simp
theorem ins_get {α : Type} {l : List α} {p : Nat} (hp : p ≤ l.length) (x : α) (i : Nat) : (l.take p ++ x :: l.drop p)[i]? = if i < p then l[i]? else if i = p then some x else l[i - 1]? := by
  by_cases h : i < p
  · rw [if_pos h, List.getElem?_append_left (by rw [List.length_take]; omega), List.getElem?_take_of_lt h]
  · rw [if_neg h, List.getElem?_append_right (by rw [List.length_take]; omega), List.length_take, Nat.min_eq_left hp]
    by_cases h2 : i = p
    · subst h2; rw [if_pos rfl, Nat.sub_self]; rfl
    · rw [if_neg h2, show i - p = (i - p - 1) + 1 from by omega, List.getElem?_cons_succ, List.getElem?_drop]
      congr 1; omega
theorem ins_inc {l : List Nat} {p j : Nat} (hl : Inc l) (h1 : ∀ i u, i < p → l[i]? = some u → u < j) (h2 : ∀ i u, p ≤ i → l[i]? = some u → j ≤ u) (hj : j ∉ l) : Inc (l.take p ++ j :: l.drop p) := by
  refine List.pairwise_append.mpr ⟨hl.sublist (List.take_sublist _ _), List.pairwise_cons.mpr ⟨?_, hl.sublist (List.drop_sublist _ _)⟩, ?_⟩
  · intro u hu
    obtain ⟨i, hi⟩ := List.mem_iff_getElem?.mp hu
    rw [List.getElem?_drop] at hi
    have := h2 _ u (Nat.le_add_right p i) hi
    have hne : u ≠ j := fun e => hj (e ▸ List.mem_of_getElem? hi)
    omega
  · intro a ha b hb
    obtain ⟨i, hi⟩ := List.mem_iff_getElem?.mp ha
    have hip : i < p := by
      have := (List.getElem?_eq_some_iff.mp hi).1
      rw [List.length_take] at this; omega
    rw [List.getElem?_take_of_lt hip] at hi
    have h3 := h1 i a hip hi
    rcases List.mem_cons.mp hb with rfl | hb
    · exact h3
    · obtain ⟨k, hk⟩ := List.mem_iff_getElem?.mp hb
      rw [List.getElem?_drop] at hk
      exact hl.get_lt (by omega) hi hk
theorem mem_ins {α : Type} {l : List α} {p : Nat} {x y : α} : y ∈ l.take p ++ x :: l.drop p ↔ y = x ∨ y ∈ l := by
  rw [List.mem_append, List.mem_cons]
  conv => rhs; rw [← List.take_append_drop p l, List.mem_append]
  constructor
  · rintro (h | h | h)
    · exact .inr (.inl h)
    · exact .inl h
    · exact .inr (.inr h)
  · rintro (h | h | h)
    · exact .inr (.inl h)
    · exact .inl h
    · exact .inr (.inr h)
/-- the sequence of the places that are looked at -/
def advM (mask : Nat) (p : Probe) : Probe :=
  if p.more > 0 then { p with j := p.j + 1, more := p.more - 1 } else
  { p with j := (leap mask p.i p.perturb).1, more := runEnd mask (leap mask p.i p.perturb).1 - (leap mask p.i p.perturb).1, i := (leap mask p.i p.perturb).1, perturb := (leap mask p.i p.perturb).2 }
def startM (mask : Nat) (h : Int) : Probe := { j := bits h % (mask + 1), more := runEnd mask (bits h % (mask + 1)) - bits h % (mask + 1), i := bits h % (mask + 1), perturb := bits h, dummy := none }
theorem start_eq (t : SetTable) (h : Int) : t.probeStart h = startM t.mask h := rfl
def PS (mask : Nat) (h : Int) : Nat → Probe
  | 0 => startM mask h
  | n + 1 => advM mask (PS mask h n)
def J (mask : Nat) (h : Int) (n : Nat) : Nat := (PS mask h n).j
theorem PS_dummy (mask : Nat) (h : Int) : ∀ n, (PS mask h n).dummy = none
  | 0 => rfl
  | n + 1 => by
    have := PS_dummy mask h n
    show (advM mask (PS mask h n)).dummy = none
    unfold advM
    split <;> exact this
theorem go_spec {t : SetTable} (hd : t.dummies = #[]) (hp : Inc t.place.toList) (hashAt : Nat → Int) (h : Int) : ∀ fuel n, (∃ e, n ≤ e ∧ e < n + fuel ∧ J t.mask h e ∉ t.place.toList) →
    ∃ e, n ≤ e ∧ (∀ m, n ≤ m → m < e → ∃ i, t.place[i]? = some (J t.mask h m) ∧ (hashAt i == h) = false) ∧
      ((J t.mask h e ∉ t.place.toList ∧ probe.go t hashAt h fuel (PS t.mask h n) = some (.empty (J t.mask h e) none)) ∨
       (∃ i, t.place[i]? = some (J t.mask h e) ∧ (hashAt i == h) = true ∧ probe.go t hashAt h fuel (PS t.mask h n) = some (.candidate (J t.mask h e) i (PS t.mask h (e + 1)))))
  | 0, n, ⟨e, h1, h2, _⟩ => by omega
  | fuel + 1, n, ⟨e, h1, h2, h3⟩ => by
    unfold probe.go
    rcases slot_cases hd hp (PS t.mask h n).j with ⟨hn, hs⟩ | ⟨i, hi, hs⟩
    · refine ⟨n, Nat.le_refl _, fun m a b => by omega, .inl ⟨hn, ?_⟩⟩
      rw [hs, PS_dummy]; rfl
    · cases hq : hashAt i == h with
      | true =>
        refine ⟨n, Nat.le_refl _, fun m a b => by omega, .inr ⟨i, hi, hq, ?_⟩⟩
        rw [hs]
        dsimp only
        rw [hq, if_pos rfl]; rfl
      | false =>
        have hne : e ≠ n := fun x => h3 (by
          subst x
          exact List.mem_of_getElem? (by rw [Array.getElem?_toList]; exact hi))
        obtain ⟨e', a1, a2, a3⟩ := go_spec hd hp hashAt h fuel (n + 1) ⟨e, by omega, by omega, h3⟩
        refine ⟨e', by omega, fun m b1 b2 => ?_, ?_⟩
        · by_cases hm : m = n
          · subst hm; exact ⟨i, hi, hq⟩
          · exact a2 m (by omega) b2
        · rw [hs]
          dsimp only
          rw [hq, if_neg Bool.false_ne_true]
          exact a3

/-- the leaps -/
def LS (mask : Nat) (h : Int) : Nat → Nat × Nat
  | 0 => (bits h % (mask + 1), bits h)
  | l + 1 => leap mask (LS mask h l).1 (LS mask h l).2
def NL (mask : Nat) (h : Int) : Nat → Nat
  | 0 => 0
  | l + 1 => NL mask h l + (runEnd mask (LS mask h l).1 - (LS mask h l).1) + 1
theorem runEnd_le (mask i : Nat) : i ≤ runEnd mask i ∧ runEnd mask i ≤ i + 9 := by
  unfold runEnd; split <;> omega
theorem PS_run (mask : Nat) (h : Int) : ∀ l k, k ≤ runEnd mask (LS mask h l).1 - (LS mask h l).1 →
    PS mask h (NL mask h l + k) = { j := (LS mask h l).1 + k, more := runEnd mask (LS mask h l).1 - (LS mask h l).1 - k, i := (LS mask h l).1, perturb := (LS mask h l).2, dummy := none }
  | 0, 0, _ => rfl
  | l + 1, 0, _ => by
    have ih := PS_run mask h l (runEnd mask (LS mask h l).1 - (LS mask h l).1) (Nat.le_refl _)
    show PS mask h (NL mask h l + (runEnd mask (LS mask h l).1 - (LS mask h l).1) + 1) = _
    show advM mask (PS mask h (NL mask h l + (runEnd mask (LS mask h l).1 - (LS mask h l).1))) = _
    rw [ih]
    unfold advM
    dsimp only
    rw [if_neg (by omega)]
    rfl
  | l, k + 1, hk => by
    have ih := PS_run mask h l k (by omega)
    show advM mask (PS mask h (NL mask h l + k)) = _
    rw [ih]
    unfold advM
    dsimp only
    rw [if_pos (by omega)]
    congr 1
termination_by l k => (l, k)
theorem J_run (mask : Nat) (h : Int) (l k : Nat) (hk : k ≤ runEnd mask (LS mask h l).1 - (LS mask h l).1) : J mask h (NL mask h l + k) = (LS mask h l).1 + k := by
  unfold J; rw [PS_run mask h l k hk]
theorem NL_le (mask : Nat) (h : Int) : ∀ l, NL mask h l ≤ 10 * l
  | 0 => Nat.le_refl _
  | l + 1 => by
    have := NL_le mask h l
    have h2 := runEnd_le mask (LS mask h l).1
    show NL mask h l + (runEnd mask (LS mask h l).1 - (LS mask h l).1) + 1 ≤ _
    omega
theorem LS_pert (mask : Nat) (h : Int) : ∀ l, (LS mask h l).2 = bits h / 32 ^ l
  | 0 => by simp [LS]
  | l + 1 => by
    show (LS mask h l).2 / 32 = _
    rw [LS_pert mask h l, Nat.div_div_eq_div_mul, Nat.pow_succ]
theorem bits_lt (h : Int) : bits h < 2 ^ 64 := by
  unfold bits
  have h1 := Int.emod_lt_of_pos h (show (0 : Int) < 2 ^ 64 by decide)
  have h2 := Int.emod_nonneg h (show (2 ^ 64 : Int) ≠ 0 by decide)
  omega
theorem LS_pert0 (mask : Nat) (h : Int) (l : Nat) : (LS mask h (13 + l)).2 = 0 := by
  rw [LS_pert]
  refine Nat.div_eq_of_lt (Nat.lt_of_lt_of_le (bits_lt h) ?_)
  have : 2 ^ 64 ≤ 32 ^ 13 := by decide
  refine Nat.le_trans this ?_
  rw [Nat.pow_add]
  exact Nat.le_mul_of_pos_right _ (Nat.pow_pos (by decide))
theorem LS_le (mask : Nat) (h : Int) : ∀ l, (LS mask h l).1 ≤ mask
  | 0 => by
    exact Nat.le_of_lt_succ (Nat.mod_lt _ (Nat.succ_pos mask))
  | l + 1 => by
    exact Nat.le_of_lt_succ (Nat.mod_lt _ (Nat.succ_pos mask))
def orb (mask : Nat) (i : Nat) : Nat → Nat
  | 0 => i
  | l + 1 => (orb mask i l * 5 + 1) % (mask + 1)
theorem LS_orb (mask : Nat) (h : Int) : ∀ l, (LS mask h (13 + l)).1 = orb mask (LS mask h 13).1 l
  | 0 => rfl
  | l + 1 => by
    show ((LS mask h (13 + l)).1 * 5 + 1 + (LS mask h (13 + l)).2 / 32) % (mask + 1) = _
    rw [LS_pert0, LS_orb mask h l]
    rfl
def orbs (mask : Nat) : Nat → Nat → List Nat
  | 0, _ => []
  | n + 1, i => i :: orbs mask n ((i * 5 + 1) % (mask + 1))
theorem orb_succ (mask : Nat) : ∀ l i, orb mask ((i * 5 + 1) % (mask + 1)) l = orb mask i (l + 1)
  | 0, i => rfl
  | l + 1, i => by
    show (orb mask ((i * 5 + 1) % (mask + 1)) l * 5 + 1) % (mask + 1) = _
    rw [orb_succ mask l i]; rfl
theorem orbs_mem (mask : Nat) : ∀ n i e, e ∈ orbs mask n i → ∃ l, l < n ∧ orb mask i l = e
  | 0, i, e, h => nomatch h
  | n + 1, i, e, h => by
    rcases List.mem_cons.mp h with rfl | h
    · exact ⟨0, by omega, rfl⟩
    · obtain ⟨l, hl, he⟩ := orbs_mem mask n _ e h
      exact ⟨l + 1, by omega, by rw [← orb_succ]; exact he⟩
theorem orbs7 : ((List.range 8).all fun i => (List.range 8).all fun e => (orbs 7 8 i).contains e) = true := by decide +kernel
theorem orbs31 : ((List.range 32).all fun i => (List.range 32).all fun e => (orbs 31 32 i).contains e) = true := by decide +kernel
def Mask (mask : Nat) : Prop := mask = 7 ∨ mask = 31
theorem orb_cover {mask : Nat} (hm : Mask mask) {i e : Nat} (hi : i ≤ mask) (he : e ≤ mask) : ∃ l, l ≤ mask ∧ orb mask i l = e := by
  have key : (orbs mask (mask + 1) i).contains e = true := by
    rcases hm with rfl | rfl
    · exact List.all_eq_true.mp (List.all_eq_true.mp orbs7 i (List.mem_range.mpr (by omega))) e (List.mem_range.mpr (by omega))
    · exact List.all_eq_true.mp (List.all_eq_true.mp orbs31 i (List.mem_range.mpr (by omega))) e (List.mem_range.mpr (by omega))
  obtain ⟨l, h1, h2⟩ := orbs_mem mask _ i e (List.contains_iff_mem.mp key)
  exact ⟨l, by omega, h2⟩
/-- some leap comes to any place -/
theorem LS_cover {mask : Nat} (hm : Mask mask) (h : Int) {e : Nat} (he : e ≤ mask) : ∃ l, l ≤ 13 + mask ∧ (LS mask h l).1 = e := by
  obtain ⟨l, h1, h2⟩ := orb_cover hm (LS_le mask h 13) he
  exact ⟨13 + l, by omega, by rw [LS_orb, h2]⟩
theorem J_cover {mask : Nat} (hm : Mask mask) (h : Int) {e : Nat} (he : e ≤ mask) : ∃ n, n < 10 * turns mask ∧ J mask h n = e := by
  obtain ⟨l, h1, h2⟩ := LS_cover hm h he
  refine ⟨NL mask h l + 0, ?_, ?_⟩
  · have := NL_le mask h l
    unfold turns; omega
  · rw [J_run mask h l 0 (Nat.zero_le _), h2]; rfl
end Mine
namespace Mine
open SetTable
theorem sub_len : ∀ {l l' : List Nat}, l.Nodup → (∀ x ∈ l, x ∈ l') → l.length ≤ l'.length
  | [], _, _, _ => Nat.zero_le _
  | a :: r, l', hn, hs => by
    obtain ⟨h1, h2⟩ := List.nodup_cons.mp hn
    have ha := hs a (.head _)
    have := sub_len (l' := l'.erase a) h2 fun x hx => (List.mem_erase_of_ne (fun e => h1 (by rw [← e]; exact hx))).mpr (hs x (.tail _ hx))
    rw [List.length_erase_of_mem ha] at this
    have hp := List.length_pos_of_mem ha
    rw [List.length_cons]; omega
theorem free_place {place : List Nat} {mask : Nat} (hl : place.length ≤ mask) : ∃ e, e ≤ mask ∧ e ∉ place := by
  refine Classical.byContradiction fun hn => ?_
  have h : ∀ x ∈ List.range (mask + 1), x ∈ place := fun x hx => Classical.byContradiction fun hx' => hn ⟨x, by have := List.mem_range.mp hx; omega, hx'⟩
  have := sub_len List.nodup_range h
  rw [List.length_range] at this
  omega
/-- every element lies where its search comes by, and nothing empty ahead of it -/
structure Good (t : SetTable) (hs : List Int) : Prop where
  dum : t.dummies = #[]
  inc : Inc t.place.toList
  mask : Mask t.mask
  len : t.place.size = hs.length
  le : ∀ j ∈ t.place.toList, j ≤ t.mask
  path : ∀ (i j : Nat) (h : Int), t.place[i]? = some j → hs[i]? = some h → ∃ n, J t.mask h n = j ∧ ∀ m, m < n → J t.mask h m ∈ t.place.toList
theorem Good.room {t : SetTable} {hs : List Int} (g : Good t hs) (hl : hs.length ≤ t.mask) (h : Int) : ∃ e, e < 10 * turns t.mask ∧ J t.mask h e ∉ t.place.toList := by
  obtain ⟨e, he, hne⟩ := free_place (place := t.place.toList) (mask := t.mask) (by rw [Array.length_toList, g.len]; exact hl)
  obtain ⟨n, hn, rfl⟩ := J_cover g.mask h he
  exact ⟨n, hn, hne⟩

theorem probe_free {t : SetTable} {hs : List Int} (g : Good t hs) (hl : hs.length ≤ t.mask) (h : Int) : ∃ e, J t.mask h e ∉ t.place.toList ∧ (∀ m, m < e → J t.mask h m ∈ t.place.toList) ∧ t.freeSlot h = some (J t.mask h e, false) := by
  obtain ⟨e0, he0, hne0⟩ := g.room hl h
  obtain ⟨e, _, h2, h3⟩ := go_spec g.dum g.inc (fun _ => h + 1) h (10 * turns t.mask) 0 ⟨e0, Nat.zero_le _, by omega, hne0⟩
  have hm : ∀ m, m < e → J t.mask h m ∈ t.place.toList := fun m hm => by
    obtain ⟨i, hi, _⟩ := h2 m (Nat.zero_le _) hm
    exact List.mem_of_getElem? (by rw [Array.getElem?_toList]; exact hi)
  rcases h3 with ⟨hn, hg⟩ | ⟨i, hi, hq, _⟩
  · refine ⟨e, hn, hm, ?_⟩
    unfold SetTable.freeSlot SetTable.probe
    rw [start_eq, show startM t.mask h = PS t.mask h 0 from rfl, hg]
    rfl
  · exfalso
    have := eq_of_beq hq
    omega
theorem put_place {t : SetTable} (hd : t.dummies = #[]) (j : Nat) : (t.put j).1 = { t with place := insertAt t.place (below t.place j) j } := by
  unfold SetTable.put
  dsimp only
  rw [hd, has_empty, if_neg Bool.false_ne_true]
theorem Good.put {t : SetTable} {hs : List Int} (g : Good t hs) {h : Int} {e : Nat} (hn : J t.mask h e ∉ t.place.toList) (hm : ∀ m, m < e → J t.mask h m ∈ t.place.toList) (hj : J t.mask h e ≤ t.mask) :
    below t.place (J t.mask h e) ≤ hs.length ∧ Good (t.put (J t.mask h e)).1 (hs.take (below t.place (J t.mask h e)) ++ h :: hs.drop (below t.place (J t.mask h e))) := by
  obtain ⟨b1, b2, b3⟩ := below_spec g.inc (J t.mask h e)
  have hp : below t.place (J t.mask h e) ≤ hs.length := by rw [← g.len]; exact b1
  have hp' : below t.place (J t.mask h e) ≤ t.place.toList.length := by rw [Array.length_toList]; exact b1
  refine ⟨hp, ?_⟩
  rw [put_place g.dum]
  generalize below t.place (J t.mask h e) = p at *
  have etl := insertAt_toList t.place p (J t.mask h e) b1
  have mem' : ∀ x, x ∈ (insertAt t.place p (J t.mask h e)).toList ↔ x = J t.mask h e ∨ x ∈ t.place.toList := fun x => by rw [etl]; exact mem_ins
  refine ⟨g.dum, ?_, g.mask, ?_, ?_, ?_⟩
  · show Inc (insertAt t.place p (J t.mask h e)).toList
    rw [etl]
    exact ins_inc g.inc (fun i u hi hu => b2 i u hi (by rw [← Array.getElem?_toList]; exact hu)) (fun i u hi hu => b3 i u hi (by rw [← Array.getElem?_toList]; exact hu)) hn
  · show (insertAt t.place p (J t.mask h e)).size = _
    rw [← Array.length_toList, etl]
    simp only [List.length_append, List.length_cons, List.length_take, List.length_drop, Array.length_toList, g.len]
  · intro j hj'
    rcases (mem' j).mp hj' with rfl | hj'
    · exact hj
    · exact g.le j hj'
  · intro i j h' h1 h2
    have h1' : (insertAt t.place p (J t.mask h e)).toList[i]? = some j := by rw [Array.getElem?_toList]; exact h1
    rw [etl, ins_get hp'] at h1'
    rw [ins_get hp] at h2
    have up : (∃ n, J t.mask h' n = j ∧ ∀ m, m < n → J t.mask h' m ∈ t.place.toList) → ∃ n, J t.mask h' n = j ∧ ∀ m, m < n → J t.mask h' m ∈ (insertAt t.place p (J t.mask h e)).toList :=
      fun ⟨n, a, b⟩ => ⟨n, a, fun m hm => (mem' _).mpr (.inr (b m hm))⟩
    by_cases c1 : i < p
    · rw [if_pos c1] at h1' h2
      exact up (g.path i j h' (by rw [← Array.getElem?_toList]; exact h1') h2)
    · rw [if_neg c1] at h1' h2
      by_cases c2 : i = p
      · rw [if_pos c2] at h1' h2
        cases h1'; cases h2
        exact ⟨e, rfl, fun m hm' => (mem' _).mpr (.inr (hm m hm'))⟩
      · rw [if_neg c2] at h1' h2
        exact up (g.path (i - 1) j h' (by rw [← Array.getElem?_toList]; exact h1') h2)

theorem runEnd_mask {mask i : Nat} (h : i ≤ mask) : runEnd mask i ≤ mask := by unfold runEnd; split <;> omega
theorem PS_le (mask : Nat) (h : Int) : ∀ n, (PS mask h n).j + (PS mask h n).more ≤ mask
  | 0 => by
    show bits h % (mask + 1) + (runEnd mask (bits h % (mask + 1)) - bits h % (mask + 1)) ≤ mask
    have h1 : bits h % (mask + 1) ≤ mask := Nat.le_of_lt_succ (Nat.mod_lt _ (Nat.succ_pos mask))
    have h2 := runEnd_mask h1
    have h3 := runEnd_le mask (bits h % (mask + 1))
    omega
  | n + 1 => by
    have ih := PS_le mask h n
    show (advM mask (PS mask h n)).j + (advM mask (PS mask h n)).more ≤ mask
    unfold advM
    split
    · dsimp only; omega
    · dsimp only
      have h1 : (leap mask (PS mask h n).i (PS mask h n).perturb).1 ≤ mask := Nat.le_of_lt_succ (Nat.mod_lt _ (Nat.succ_pos mask))
      have h2 := runEnd_mask h1
      have h3 := runEnd_le mask (leap mask (PS mask h n).i (PS mask h n).perturb).1
      omega
theorem J_le (mask : Nat) (h : Int) (n : Nat) : J mask h n ≤ mask := by
  have := PS_le mask h n
  unfold J; omega
/-- the owners' table, some elements laid -/
structure Lay (mask : Nat) (hs : List Int) (owner : Array (Option Nat)) (js : List Nat) : Prop where
  size : owner.size = mask + 1
  nd : js.Nodup
  le : ∀ j ∈ js, j ≤ mask
  own : ∀ (i j : Nat), js[i]? = some j → owner[j]? = some (some i)
  non : ∀ (j : Nat), j ≤ mask → j ∉ js → owner[j]? = some none
  path : ∀ (i j : Nat) (h : Int), js[i]? = some j → hs[i]? = some h → ∃ n, J mask h n = j ∧ ∀ m, m < n → J mask h m ∈ js
theorem Lay.isNone {mask : Nat} {hs : List Int} {owner : Array (Option Nat)} {js : List Nat} (L : Lay mask hs owner js) {j : Nat} (hj : j ≤ mask) : (owner.getD j (some 0)).isNone = true ↔ j ∉ js := by
  rw [Array.getD_eq_getD_getElem?]
  by_cases h : j ∈ js
  · obtain ⟨i, hi⟩ := List.mem_iff_getElem?.mp h
    rw [L.own i j hi]
    simp [h]
  · rw [L.non j hj h]
    simp [h]
theorem free_spec {mask : Nat} {hs : List Int} {owner : Array (Option Nat)} {js : List Nat} (L : Lay mask hs owner js) (h : Int) : ∀ fuel l, (∃ l', l ≤ l' ∧ l' < l + fuel ∧ (LS mask h l').1 ∉ js) →
    ∃ e, NL mask h l ≤ e ∧ J mask h e ∉ js ∧ (∀ m, NL mask h l ≤ m → m < e → J mask h m ∈ js) ∧ layClean.free mask owner fuel (LS mask h l).1 (LS mask h l).2 = some (J mask h e)
  | 0, l, ⟨l', h1, h2, _⟩ => by omega
  | fuel + 1, l, ⟨l', h1, h2, h3⟩ => by
    unfold layClean.free
    have hr := runEnd_le mask (LS mask h l).1
    have hm := runEnd_mask (LS_le mask h l)
    have hat : ∀ k, k ≤ runEnd mask (LS mask h l).1 - (LS mask h l).1 → ((owner.getD ((LS mask h l).1 + k) (some 0)).isNone = true ↔ J mask h (NL mask h l + k) ∉ js) := fun k hk => by
      rw [J_run mask h l k hk]
      exact L.isNone (by omega)
    cases hf : (List.range (runEnd mask (LS mask h l).1 + 1 - (LS mask h l).1)).find? fun k => (owner.getD ((LS mask h l).1 + k) (some 0)).isNone with
    | some k =>
      obtain ⟨hp, as, bs, hab, hno⟩ := List.find?_eq_some_iff_append.mp hf
      have hk : k ∈ List.range (runEnd mask (LS mask h l).1 + 1 - (LS mask h l).1) := by rw [hab]; simp
      have hk' := List.mem_range.mp hk
      have hlen : as.length = k := by
        have e : (List.range (runEnd mask (LS mask h l).1 + 1 - (LS mask h l).1))[as.length]? = some k := by rw [hab]; simp
        have hlt : as.length < runEnd mask (LS mask h l).1 + 1 - (LS mask h l).1 := by
          have := (List.getElem?_eq_some_iff.mp e).1
          rw [List.length_range] at this; exact this
        rw [List.getElem?_range hlt] at e
        exact Option.some.inj e
      refine ⟨NL mask h l + k, Nat.le_add_right _ _, (hat k (by omega)).mp hp, fun m a b => ?_, ?_⟩
      · have hmk : m - NL mask h l < k := by omega
        have hma : m - NL mask h l ∈ as := by
          have e : (List.range (runEnd mask (LS mask h l).1 + 1 - (LS mask h l).1))[m - NL mask h l]? = some (m - NL mask h l) := List.getElem?_range (by omega)
          rw [hab, List.getElem?_append_left (by omega)] at e
          exact List.mem_of_getElem? e
        have hno' := hno _ hma
        refine Classical.byContradiction fun hnj => ?_
        have := (hat (m - NL mask h l) (by omega)).mpr (by rw [show NL mask h l + (m - NL mask h l) = m from by omega]; exact hnj)
        rw [this] at hno'
        exact absurd hno' (by decide)
      · rw [J_run mask h l k (by omega)]
    | none =>
      have hall := List.find?_eq_none.mp hf
      have occ : ∀ k, k ≤ runEnd mask (LS mask h l).1 - (LS mask h l).1 → J mask h (NL mask h l + k) ∈ js := fun k hk => Classical.byContradiction fun hnj => by
        exact hall k (List.mem_range.mpr (by omega)) ((hat k hk).mpr hnj)
      have hne : l' ≠ l := fun e => by
        subst e
        have := occ 0 (Nat.zero_le _)
        rw [J_run mask h l' 0 (Nat.zero_le _)] at this
        exact h3 this
      obtain ⟨e, a1, a2, a3, a4⟩ := free_spec L h fuel (l + 1) ⟨l', by omega, by omega, h3⟩
      have hNL : NL mask h (l + 1) = NL mask h l + (runEnd mask (LS mask h l).1 - (LS mask h l).1) + 1 := rfl
      refine ⟨e, by omega, a2, fun m b1 b2 => ?_, a4⟩
      by_cases hc : NL mask h (l + 1) ≤ m
      · exact a3 m hc b2
      · have := occ (m - NL mask h l) (by omega)
        rwa [show NL mask h l + (m - NL mask h l) = m from by omega] at this
theorem free_first {mask : Nat} (hM : Mask mask) {hs : List Int} {owner : Array (Option Nat)} {js : List Nat} (L : Lay mask hs owner js) (hl : js.length ≤ mask) (h : Int) :
    ∃ e, J mask h e ∉ js ∧ (∀ m, m < e → J mask h m ∈ js) ∧ layClean.free mask owner (turns mask) (bits h % (mask + 1)) (bits h) = some (J mask h e) := by
  obtain ⟨f, hf, hnf⟩ := free_place (place := js) hl
  obtain ⟨l, hl1, hl2⟩ := LS_cover hM h hf
  obtain ⟨e, _, a2, a3, a4⟩ := free_spec L h (turns mask) 0 ⟨l, Nat.zero_le _, by unfold turns; omega, by rw [hl2]; exact hnf⟩
  exact ⟨e, a2, fun m hm => a3 m (Nat.zero_le _) hm, a4⟩
end Mine
namespace Mine
open SetTable
def layStep (mask : Nat) (acc : Option (Array (Option Nat) × Nat)) (h : Int) : Option (Array (Option Nat) × Nat) := do
  let (owner, k) ← acc
  let j ← layClean.free mask owner (turns mask) (bits h % (mask + 1)) (bits h)
  pure (owner.setIfInBounds j (some k), k + 1)
theorem layClean_eq (mask : Nat) (hashes : Array Int) : layClean mask hashes = (hashes.toList.foldl (layStep mask) (some (Array.replicate (mask + 1) none, 0))).map (·.1) := by
  unfold layClean
  rw [← Array.foldl_toList]
  rfl
theorem Lay.step {mask : Nat} {hs : List Int} {owner : Array (Option Nat)} {js : List Nat} (L : Lay mask hs owner js) {h : Int} {e : Nat} (hk : hs[js.length]? = some h) (hn : J mask h e ∉ js) (hm : ∀ m, m < e → J mask h m ∈ js) :
    Lay mask hs (owner.setIfInBounds (J mask h e) (some js.length)) (js ++ [J mask h e]) := by
  have hle := J_le mask h e
  have hsz : J mask h e < owner.size := by rw [L.size]; omega
  have memL : ∀ x, x ∈ js ++ [J mask h e] ↔ x ∈ js ∨ x = J mask h e := fun x => by simp
  refine ⟨by rw [Array.size_setIfInBounds]; exact L.size, ?_, ?_, ?_, ?_, ?_⟩
  · refine List.nodup_append.mpr ⟨L.nd, by simp, ?_⟩
    intro a ha b hb hab
    rw [List.mem_singleton] at hb
    subst hab; subst hb; exact hn ha
  · intro j hj
    rcases (memL j).mp hj with hj | rfl
    · exact L.le j hj
    · exact hle
  · intro i j hi
    by_cases hc : i < js.length
    · rw [List.getElem?_append_left hc] at hi
      have hne : J mask h e ≠ j := fun x => hn (x ▸ List.mem_of_getElem? hi)
      rw [Array.getElem?_setIfInBounds_ne hne]
      exact L.own i j hi
    · rw [List.getElem?_append_right (by omega)] at hi
      have h0 : i - js.length = 0 := by
        have := (List.getElem?_eq_some_iff.mp hi).1
        simp at this; omega
      rw [h0] at hi
      simp at hi
      subst hi
      rw [Array.getElem?_setIfInBounds_self_of_lt hsz, show js.length = i from by omega]
  · intro j hj hnj
    have hne : J mask h e ≠ j := fun x => hnj ((memL j).mpr (.inr x.symm))
    rw [Array.getElem?_setIfInBounds_ne hne]
    exact L.non j hj fun x => hnj ((memL j).mpr (.inl x))
  · intro i j h' hi hh
    by_cases hc : i < js.length
    · rw [List.getElem?_append_left hc] at hi
      obtain ⟨n, a, b⟩ := L.path i j h' hi hh
      exact ⟨n, a, fun m hm => (memL _).mpr (.inl (b m hm))⟩
    · rw [List.getElem?_append_right (by omega)] at hi
      have h0 : i - js.length = 0 := by
        have := (List.getElem?_eq_some_iff.mp hi).1
        simp at this; omega
      rw [h0] at hi
      simp at hi
      subst hi
      rw [show i = js.length from by omega, hk] at hh
      cases hh
      exact ⟨e, rfl, fun m hm' => (memL _).mpr (.inl (hm m hm'))⟩
theorem lay_fold {mask : Nat} (hM : Mask mask) {hs : List Int} (hl : hs.length ≤ mask) : ∀ (rest pre : List Int) (owner : Array (Option Nat)) (js : List Nat), hs = pre ++ rest → Lay mask hs owner js → js.length = pre.length →
    ∃ owner' js', rest.foldl (layStep mask) (some (owner, pre.length)) = some (owner', hs.length) ∧ Lay mask hs owner' js' ∧ js'.length = hs.length
  | [], pre, owner, js, hh, L, hj => ⟨owner, js, by rw [hh, List.append_nil]; rfl, L, by rw [hj, hh, List.append_nil]⟩
  | h :: r, pre, owner, js, hh, L, hj => by
    have hk : hs[js.length]? = some h := by rw [hh, hj]; simp
    have hll : js.length ≤ mask := by
      have : hs.length = pre.length + (r.length + 1) := by rw [hh]; simp
      omega
    obtain ⟨e, hn, hm, hf⟩ := free_first hM L hll h
    have L' := L.step hk hn hm
    obtain ⟨owner', js', a, b, c⟩ := lay_fold hM hl r (pre ++ [h]) _ _ (by rw [hh]; simp) L' (by simp [hj])
    refine ⟨owner', js', ?_, b, c⟩
    rw [List.foldl_cons]
    have hs1 : layStep mask (some (owner, pre.length)) h = some (owner.setIfInBounds (J mask h e) (some js.length), (pre ++ [h]).length) := by
      unfold layStep
      show (layClean.free mask owner (turns mask) (bits h % (mask + 1)) (bits h)).bind (fun j => some (owner.setIfInBounds j (some pre.length), pre.length + 1)) = _
      rw [hf]
      simp [hj]
    rw [hs1]; exact a
theorem lay_new (mask : Nat) (hs : List Int) : Lay mask hs (Array.replicate (mask + 1) none) [] := by
  refine ⟨by simp, List.nodup_nil, by simp, by simp, fun j hj _ => ?_, by simp⟩
  rw [Array.getElem?_replicate, if_pos (by omega)]
theorem layClean_spec {mask : Nat} (hM : Mask mask) {hashes : Array Int} (hl : hashes.toList.length ≤ mask) : ∃ owner js, layClean mask hashes = some owner ∧ Lay mask hashes.toList owner js ∧ js.length = hashes.toList.length := by
  obtain ⟨owner, js, a, b, c⟩ := lay_fold hM hl hashes.toList [] _ [] rfl (lay_new mask _) rfl
  exact ⟨owner, js, by rw [layClean_eq]; show (hashes.toList.foldl (layStep mask) (some (Array.replicate (mask + 1) none, ([] : List Int).length))).map (·.1) = _; rw [a]; rfl, b, c⟩
end Mine
namespace Mine
open SetTable
def liveOf (mask : Nat) (owner : Array (Option Nat)) : List (Nat × Nat) := (List.range (mask + 1)).filterMap fun j => (owner.getD j none).map (j, ·)
theorem fm_fst {g : Nat → Option Nat} : ∀ l : List Nat, ((l.filterMap fun j => (g j).map (j, ·)).map (·.1)).Sublist l
  | [] => List.Sublist.slnil
  | a :: r => by
    rw [List.filterMap_cons]
    cases h : g a with
    | none => exact (fm_fst r).cons _
    | some i => exact (fm_fst r).cons_cons _
theorem range_inc (n : Nat) : Inc (List.range n) := List.pairwise_lt_range
theorem live_inc (mask : Nat) (owner : Array (Option Nat)) : Inc ((liveOf mask owner).map (·.1)) := (range_inc _).sublist (fm_fst _)
theorem live_mem {mask : Nat} {hs : List Int} {owner : Array (Option Nat)} {js : List Nat} (L : Lay mask hs owner js) (j i : Nat) : (j, i) ∈ liveOf mask owner ↔ js[i]? = some j := by
  have hget : ∀ j, j ≤ mask → (owner.getD j none = some i ↔ js[i]? = some j) := fun j hj => by
    rw [Array.getD_eq_getD_getElem?]
    constructor
    · intro h
      by_cases hm : j ∈ js
      · obtain ⟨i', hi'⟩ := List.mem_iff_getElem?.mp hm
        rw [L.own i' j hi'] at h
        simp at h
        subst h; exact hi'
      · rw [L.non j hj hm] at h
        simp at h
    · intro h
      rw [L.own i j h]; rfl
  unfold liveOf
  rw [List.mem_filterMap]
  constructor
  · rintro ⟨j', hj', e⟩
    have hj2 := List.mem_range.mp hj'
    obtain ⟨i', h1, h2⟩ := Option.map_eq_some_iff.mp e
    cases h2
    exact (hget j (by omega)).mp h1
  · intro h
    have hj := L.le j (List.mem_of_getElem? h)
    exact ⟨j, List.mem_range.mpr (by omega), by rw [(hget j hj).mpr h]; rfl⟩
theorem fm_get {α : Type} (xs : List α) : ∀ (l : List Nat), (∀ i ∈ l, i < xs.length) → ∀ (p : Nat), (l.filterMap (xs[·]?))[p]? = (l[p]?).bind (xs[·]?)
  | [], _, p => by simp
  | a :: r, h, p => by
    have ha := h a (.head _)
    rw [List.filterMap_cons, List.getElem?_eq_getElem ha]
    cases p with
    | zero => simp [List.getElem?_eq_getElem ha]
    | succ p =>
      simp only [List.getElem?_cons_succ]
      exact fm_get xs r (fun i hi => h i (.tail _ hi)) p
theorem fm_len {α : Type} (xs : List α) : ∀ (l : List Nat), (∀ i ∈ l, i < xs.length) → (l.filterMap (xs[·]?)).length = l.length
  | [], _ => rfl
  | a :: r, h => by
    have ha := h a (.head _)
    rw [List.filterMap_cons, List.getElem?_eq_getElem ha]
    simp [fm_len xs r (fun i hi => h i (.tail _ hi))]
theorem relaid_spec (t : SetTable) {hashes : Array Int} {wanted : Nat} (hM : Mask (sizeAbove wanted - 1)) (hl : hashes.toList.length ≤ sizeAbove wanted - 1) :
    ∃ t' order, t.relaid hashes wanted = some (t', order) ∧ Good t' (order.toList.filterMap (hashes.toList[·]?)) ∧ t'.mask = sizeAbove wanted - 1 ∧ order.toList.Perm (List.range hashes.toList.length) ∧ t'.led = t.led ∧ t'.plain = t.plain ∧ t'.place.size = hashes.toList.length := by
  obtain ⟨owner, js, h1, L, h3⟩ := layClean_spec hM hl
  generalize hmk : sizeAbove wanted - 1 = mask at *
  have lt : ∀ i ∈ (liveOf mask owner).map (·.2), i < hashes.toList.length := fun i hi => by
    obtain ⟨⟨j, i'⟩, hq, rfl⟩ := List.mem_map.mp hi
    have := (List.getElem?_eq_some_iff.mp ((live_mem L j i').mp hq)).1
    omega
  have nd : ((liveOf mask owner).map (·.2)).Nodup := by
    have hinc := live_inc mask owner
    unfold Inc at hinc
    rw [List.pairwise_map] at hinc
    refine List.pairwise_map.mpr (hinc.imp_of_mem ?_)
    rintro ⟨j, i⟩ ⟨j', i'⟩ ha hb hlt e
    dsimp only at e hlt
    subst e
    have e1 := (live_mem L j i).mp ha
    have e2 := (live_mem L j' i).mp hb
    rw [e1] at e2
    cases e2
    omega
  have pm : ((liveOf mask owner).map (·.2)).Perm (List.range hashes.toList.length) := by
    refine (List.perm_ext_iff_of_nodup nd List.nodup_range).mpr fun i => ?_
    rw [List.mem_range]
    refine ⟨lt i, fun hi => ?_⟩
    have hi' : i < js.length := by omega
    exact List.mem_map.mpr ⟨(js[i], i), (live_mem L _ i).mpr (List.getElem?_eq_getElem hi'), rfl⟩
  refine ⟨{ mask, place := ((liveOf mask owner).map (·.1)).toArray, dummies := #[], finger := t.finger, led := t.led, moves := t.movedTo mask, plain := t.plain }, ((liveOf mask owner).map (·.2)).toArray, ?_, ?_, rfl, pm, rfl, rfl, ?_⟩
  · unfold SetTable.relaid
    rw [hmk]
    unfold SetTable.laid
    rw [h1]; rfl
  · have memj : ∀ j, j ∈ (liveOf mask owner).map (·.1) ↔ j ∈ js := fun j => by
      constructor
      · intro h
        obtain ⟨⟨j', i⟩, hq, rfl⟩ := List.mem_map.mp h
        exact List.mem_of_getElem? ((live_mem L j' i).mp hq)
      · intro h
        obtain ⟨i, hi⟩ := List.mem_iff_getElem?.mp h
        exact List.mem_map.mpr ⟨(j, i), (live_mem L j i).mpr hi, rfl⟩
    refine ⟨rfl, live_inc mask owner, hM, ?_, fun j hj => L.le j ((memj j).mp hj), ?_⟩
    · rw [fm_len _ _ lt]
      simp
    · intro p j h hp hh
      have hp' : ((liveOf mask owner).map (·.1))[p]? = some j := by
        have : ((liveOf mask owner).map (·.1)).toArray[p]? = some j := hp
        simpa using this
      rw [fm_get _ _ lt] at hh
      rw [List.getElem?_map] at hp' hh
      cases hq : (liveOf mask owner)[p]? with
      | none => rw [hq] at hp'; simp at hp'
      | some q =>
        rw [hq] at hp' hh
        simp at hp'
        obtain ⟨j', i⟩ := q
        simp at hp'
        subst hp'
        have hji := (live_mem L j' i).mp (List.mem_of_getElem? hq)
        obtain ⟨n, a, b⟩ := L.path i j' h hji (by simpa using hh)
        exact ⟨n, a, fun m hm => (memj _).mpr (b m hm)⟩
  · have := pm.length_eq
    simp at this ⊢
    exact this
end Mine
namespace Mine
inductive Ky | int (n : Fin 3) | str (n : Fin 3) | tup (n : Fin 3) deriving DecidableEq
abbrev nOf (n : Fin 3) : Int := (n.val : Int)
def sOf (n : Fin 3) : Str := Str.ofString (toString (nOf n))
abbrev tupObj (n : Fin 3) (t : Tok) : Obj := { cls := .type "tuple", data := .seq #[.int (nOf n) t] }
/-- a value that has a key; G tells the tuples' objects -/
inductive KyIn (G : Addr → Obj → Prop) : Value → Ky → Prop
  | int (n : Fin 3) (t : Tok) : t ≠ 0 → KyIn G (.int (nOf n) t) (.int n)
  | boo (b : Bool) (n : Fin 3) : (if b then 1 else 0) = nOf n → KyIn G (.bool b) (.int n)
  | str (n : Fin 3) (t : Tok) : t ≠ 0 → KyIn G (.str (sOf n) t) (.str n)
  | tup (n : Fin 3) (t : Tok) (a : Addr) : G a (tupObj n t) → KyIn G (.ref a) (.tup n)
theorem KyIn.mono {G G' : Addr → Obj → Prop} (h : ∀ a o, G a o → G' a o) {v : Value} {k : Ky} (x : KyIn G v k) : KyIn G' v k := by
  cases x with
  | int n t ht => exact .int n t ht
  | boo b n e => exact .boo b n e
  | str n t ht => exact .str n t ht
  | tup n t a g => exact .tup n t a (h _ _ g)
abbrev AtH (h : Heap) : Addr → Obj → Prop := fun a o => h.get? a = some o
def dataK : Ky → WData
  | .int n => .int (nOf n)
  | .str n => .str (sOf n)
  | .tup n => .tuple [.int (nOf n)]
def hashK (w : World) (k : Ky) : Int := hashW w.params (dataK k)
theorem hash_bool (P : Params) : ∀ (b : Bool) (n : Fin 3), (if b then 1 else 0) = nOf n → hashW P (.bool b) = hashW P (.int (nOf n)) := by
  intro b n e
  have h0 : hashW P (.int 0) = 0 := rfl
  have h1 : hashW P (.int 1) = 1 := rfl
  cases b with
  | false =>
    have : nOf n = 0 := by simpa using e.symm
    rw [this, h0]; rfl
  | true =>
    have : nOf n = 1 := by simpa using e.symm
    rw [this, h1]; rfl
theorem nOf_inj {a b : Fin 3} (h : nOf a = nOf b) : a = b := Fin.ext (by exact_mod_cast h)
theorem sOf_inj : ∀ a b : Fin 3, sOf a = sOf b → a = b := by decide +kernel
section
variable {prog : Program} {w : World} {A : Around} {E : Value → Shared → Prop} {s : Shared}
theorem pyHash_K {v : Value} {k : Ky} {Q : Int → Shared → Prop} (x : KyIn (AtH s.heap) v k) (hu : A.units + 2 < cLine) (h : ∀ tk, Q (hashK w k) { s with toks := tk }) : wpAny (model prog w) A (pyHash v) Q E s := by
  cases x with
  | int n t _ => exact pyHash_laid (.int (nOf n)) _ A s Q rfl (.int _ _) (by simp only [WData.depth]; omega) h
  | boo b n e => exact pyHash_laid (.bool b) _ A s Q rfl (.bool _) (by simp only [WData.depth]; omega) fun tk => by rw [hash_bool w.params b n e]; exact h tk
  | str n t _ => exact pyHash_laid (.str (sOf n)) _ A s Q rfl (.str _ _) (by simp only [WData.depth]; omega) h
  | tup n t a g => exact pyHash_laid (.tuple [.int (nOf n)]) _ A s Q rfl (.tuple (vs := [.int (nOf n) t]) g (.cons (.int _ _) .nil)) (by simp only [WData.depth, WData.depthAll]; omega) h
theorem tupKey {n : Fin 3} {t : Tok} {a : Addr} (g : s.heap.get? a = some (tupObj n t)) : IsTupleKey (intKind prog w) s.heap [nOf n] a :=
  ⟨_, _, _, g, rfl, rfl, .cons (intKind_is _ _ _ _) .nil⟩
theorem tupIs {n : Fin 3} {t : Tok} {a : Addr} (g : s.heap.get? a = some (tupObj n t)) : s.heap.IsTuple a #[.int (nOf n) t] := ⟨_, g, rfl, _, rfl⟩
open SeqAt in
theorem eqBool_K {u v : Value} {j k : Ky} {Q : Bool → Shared → Prop} (x : KyIn (AtH s.heap) u j) (y : KyIn (AtH s.heap) v k) (hu : A.units + 2 < cLine) (h : Q (decide (j = k)) s) : wpAny (model prog w) A (eqBool u v) Q E s := by
  have hu' : A.units < cLine := by omega
  have to : ∀ {b : Bool}, EqAt A s u v b → b = decide (j = k) → wpAny (model prog w) A (eqBool u v) Q E s := fun e hb => e prog w E Q (by rw [hb]; exact h)
  cases x with
  | int n t _ =>
    cases y with
    | int m t' _ =>
      refine to (EqAt.int_int _ _ _ _) ?_
      rw [Bool.eq_iff_iff, beq_iff_eq, decide_eq_true_iff]
      exact ⟨fun e => by rw [nOf_inj e], fun e => by cases e; rfl⟩
    | boo b m e =>
      refine to (EqAt.int_bool _ _ _) ?_
      rw [e, Bool.eq_iff_iff, beq_iff_eq, decide_eq_true_iff]
      exact ⟨fun e => by rw [nOf_inj e], fun e => by cases e; rfl⟩
    | str m t' _ => exact to (EqAt.int_str _ _ _ _) (by rw [decide_eq_false (by nofun)])
    | tup m t' a g => exact to (EqAt.int_tuple _ _ (tupIs g) hu') (by rw [decide_eq_false (by nofun)])
  | boo b n e =>
    cases y with
    | int m t' _ =>
      refine to (EqAt.bool_int _ _ _) ?_
      rw [e, Bool.eq_iff_iff, beq_iff_eq, decide_eq_true_iff]
      exact ⟨fun e => by rw [nOf_inj e], fun e => by cases e; rfl⟩
    | boo b' m e' =>
      refine to (EqAt.bool_bool _ _) ?_
      rw [Bool.eq_iff_iff, beq_iff_eq, decide_eq_true_iff]
      refine ⟨fun hb => ?_, fun hk => ?_⟩
      · subst hb
        rw [e] at e'
        rw [nOf_inj e']
      · cases hk
        rw [← e'] at e
        revert e
        cases b <;> cases b' <;> decide
    | str m t' _ => exact to (EqAt.bool_str _ _ _) (by rw [decide_eq_false (by nofun)])
    | tup m t' a g => exact to (EqAt.bool_tuple _ (tupIs g) hu') (by rw [decide_eq_false (by nofun)])
  | str n t _ =>
    cases y with
    | int m t' _ => exact to (EqAt.str_int _ _ _ _) (by rw [decide_eq_false (by nofun)])
    | boo b m e => exact to (EqAt.str_bool _ _ _) (by rw [decide_eq_false (by nofun)])
    | str m t' _ =>
      refine to (EqAt.str_str _ _ _ _) ?_
      rw [Bool.eq_iff_iff, beq_iff_eq, decide_eq_true_iff]
      exact ⟨fun e => by rw [sOf_inj _ _ e], fun e => by cases e; rfl⟩
    | tup m t' a g => exact to (EqAt.str_tuple _ _ (tupIs g) hu') (by rw [decide_eq_false (by nofun)])
  | tup n t a g =>
    cases y with
    | int m t' _ => exact to (EqAt.tuple_int _ _ (tupIs g) hu') (by rw [decide_eq_false (by nofun)])
    | boo b m e => exact to (EqAt.tuple_bool _ (tupIs g) hu') (by rw [decide_eq_false (by nofun)])
    | str m t' _ => exact to (EqAt.tuple_str _ _ (tupIs g) hu') (by rw [decide_eq_false (by nofun)])
    | tup m t' b g' =>
      refine wpAny_eqBool_tuple hu' (tupKey g) (tupKey g') ?_
      have e : decide ([nOf n] = [nOf m]) = decide (Ky.tup n = Ky.tup m) := by
        rw [Bool.eq_iff_iff, decide_eq_true_iff, decide_eq_true_iff]
        exact ⟨fun e => by rw [nOf_inj (List.cons.inj e).1], fun e => by cases e; rfl⟩
      rw [e]; exact h
theorem same_K {v : Value} {k : Ky} {Q : Bool → Shared → Prop} (x : KyIn (AtH s.heap) v k) (h : Q true s) : wpAny (model prog w) A (isSame v v) Q E s := by
  have tok : ∀ t : Tok, t ≠ 0 → (t == 0 || t == 0) = false := fun t ht => by
    rw [Bool.or_self]; exact beq_eq_false_iff_ne.mpr ht
  cases x with
  | int n t ht =>
    have hs : smallInt (nOf n) = true := by revert n; decide +kernel
    show wpAny _ A (if (nOf n == nOf n && smallInt (nOf n)) = true then isSame.cachedInt t t else _) Q E s
    rw [if_pos (by rw [beq_self_eq_true, hs]; rfl)]
    unfold isSame.cachedInt
    rw [if_neg (by rw [tok t ht]; exact Bool.false_ne_true)]
    exact wpAny_bind (wpAny_rule (wpAny_pure h))
  | boo b n e => exact wpAny_isSame_plain rfl (by rw [beq_self_eq_true]; exact h)
  | str n t ht =>
    show wpAny _ A (isSame.created (sOf n == sOf n) t t) Q E s
    unfold isSame.created
    rw [if_neg (by rw [tok t ht]; exact Bool.false_ne_true)]
    first
      | (rw [if_pos (beq_self_eq_true t)]; exact wpAny_pure h)
      | (refine wpAny_ite ?_; rw [if_pos (beq_self_eq_true t)]; exact wpAny_pure h)
  | tup n t a g => exact wpAny_isSame_ref_self h
end
end Mine
namespace Mine
structure Al (w : World) (G : Addr → Obj → Prop) (l : List (Int × Value)) (ks : List Ky) : Prop where
  len : l.length = ks.length
  at' : ∀ (i : Nat) (k : Ky), ks[i]? = some k → ∃ v, l[i]? = some (hashK w k, v) ∧ KyIn G v k
theorem Al.mono {w : World} {G G' : Addr → Obj → Prop} (h : ∀ a o, G a o → G' a o) {l : List (Int × Value)} {ks : List Ky} (x : Al w G l ks) : Al w G' l ks :=
  ⟨x.len, fun i k hk => by obtain ⟨v, a, b⟩ := x.at' i k hk; exact ⟨v, a, b.mono h⟩⟩
theorem Al.back {w : World} {G : Addr → Obj → Prop} {l : List (Int × Value)} {ks : List Ky} (x : Al w G l ks) {i : Nat} {e : Int × Value} (h : l[i]? = some e) : ∃ k, ks[i]? = some k ∧ e.1 = hashK w k ∧ KyIn G e.2 k := by
  have hi : i < ks.length := by rw [← x.len]; exact (List.getElem?_eq_some_iff.mp h).1
  obtain ⟨v, a, b⟩ := x.at' i ks[i] (List.getElem?_eq_getElem hi)
  rw [h] at a
  cases a
  exact ⟨ks[i], List.getElem?_eq_getElem hi, rfl, b⟩
theorem Al.cons {w : World} {G : Addr → Obj → Prop} {e : Int × Value} {l : List (Int × Value)} {k : Ky} {ks : List Ky} (x : Al w G (e :: l) (k :: ks)) : e.1 = hashK w k ∧ KyIn G e.2 k ∧ Al w G l ks := by
  obtain ⟨v, a, b⟩ := x.at' 0 k rfl
  simp at a
  subst a
  exact ⟨rfl, b, by have := x.len; simpa using this, fun i k' hk => by have := x.at' (i + 1) k' (by simpa using hk); simpa using this⟩
section
variable {prog : Program} {w : World} {A : Around} {E : Value → Shared → Prop} {s : Shared}
def Scanned (k : Ky) (ks : List Ky) (r : ScanMet) : Prop := (r = .absent ∧ k ∉ ks) ∨ ∃ j, r = .found j ∧ k ∈ ks
theorem scanFrom_K {a : Addr} {o : Obj} {es : Array (Int × Value)} {ep : Nat} {t : SetTable} {x : Value} {k : Ky} {adding : Bool} (hx : KyIn (AtH s.heap) x k) (ho : s.heap.get? a = some o) (hd : o.data = .set es ep t) (hf : t.fits es.size = true) (hu : A.units + 2 < cLine) :
    ∀ (l : List (Int × Value)) (ks : List Ky) (i : Nat) {Q : ScanMet → Shared → Prop}, Al w (AtH s.heap) l ks → (∀ r, Scanned k ks r → Q r s) → wpAny (model prog w) A (setScanFrom a x (hashK w k) adding l i) Q E s
  | [], ks, i, Q, hl, h => by
    have : ks = [] := List.eq_nil_of_length_eq_zero hl.len.symm
    subst this
    unfold setScanFrom
    exact wpAny_pure (h _ (.inl ⟨rfl, by simp⟩))
  | (h', y) :: rest, [], i, Q, hl, h => by have := hl.len; simp at this
  | (h', y) :: rest, k' :: ks, i, Q, hl, h => by
    obtain ⟨e1, hy, hr⟩ := hl.cons
    simp only at e1 hy
    unfold setScanFrom
    by_cases hq : (h' == hashK w k) = true
    · rw [if_pos hq]
      refine wpAny_bind (wpAny_setEpoch_of ho hd hf ?_)
      refine wpAny_bind (eqBool_K hy hx hu ?_)
      by_cases hkk : k' = k
      · subst hkk
        have hfnd : ∀ j, Q (.found j) s := fun j => h _ (.inr ⟨j, rfl, .head _⟩)
        cases adding
        · dsimp only
          refine wpAny_bind (wpAny_setEpoch_of ho hd hf ?_)
          simp only [bne_self_eq_false, Bool.false_eq_true, ↓reduceIte, decide_true]
          exact wpAny_pure (hfnd _)
        · simp only [decide_true, Bool.and_self, ↓reduceIte]
          exact wpAny_pure (hfnd _)
      · have hne : decide (k' = k) = false := decide_eq_false hkk
        simp only [hne, Bool.and_false, Bool.false_eq_true, ↓reduceIte]
        refine wpAny_bind (wpAny_setEpoch_of ho hd hf ?_)
        simp only [bne_self_eq_false, Bool.false_eq_true, ↓reduceIte]
        refine scanFrom_K hx ho hd hf hu rest ks (i + 1) hr fun r hr' => h r ?_
        rcases hr' with ⟨rfl, hn⟩ | ⟨j, rfl, hm⟩
        · exact .inl ⟨rfl, fun hm => by rcases List.mem_cons.mp hm with e | hm; exact hkk e.symm; exact hn hm⟩
        · exact .inr ⟨j, rfl, .tail _ hm⟩
    · rw [if_neg hq]
      have hkk : k' ≠ k := fun e => hq (by subst e; rw [e1]; exact beq_self_eq_true _)
      refine scanFrom_K hx ho hd hf hu rest ks (i + 1) hr fun r hr' => h r ?_
      rcases hr' with ⟨rfl, hn⟩ | ⟨j, rfl, hm⟩
      · exact .inl ⟨rfl, fun hm => by rcases List.mem_cons.mp hm with e | hm; exact hkk e.symm; exact hn hm⟩
      · exact .inr ⟨j, rfl, .tail _ hm⟩
theorem isStr_K {G : Addr → Obj → Prop} {v : Value} {k : Ky} {n : Fin 3} (x : KyIn G v k) : v.isStr (sOf n) = decide (k = .str n) := by
  cases x with
  | int m t _ => rw [decide_eq_false (by nofun)]; rfl
  | boo b m e => rw [decide_eq_false (by nofun)]; rfl
  | tup m t a g => rw [decide_eq_false (by nofun)]; rfl
  | str m t _ =>
    show (sOf m == sOf n) = _
    rw [Bool.eq_iff_iff, beq_iff_eq, decide_eq_true_iff]
    exact ⟨fun e => by rw [sOf_inj _ _ e], fun e => by cases e; rfl⟩
theorem scan_K {a : Addr} {o : Obj} {es : Array (Int × Value)} {ep : Nat} {t : SetTable} {x : Value} {k : Ky} {ks : List Ky} {adding : Bool} {Q : ScanMet → Shared → Prop} (hx : KyIn (AtH s.heap) x k) (ho : s.heap.get? a = some o) (hd : o.data = .set es ep t) (hf : t.fits es.size = true) (hu : A.units + 2 < cLine)
    (hl : Al w (AtH s.heap) es.toList ks) (h : ∀ r, Scanned k ks r → Q r s) : wpAny (model prog w) A (setScan a x (hashK w k) adding es) Q E s := by
  have old : wpAny (model prog w) A (setScanFrom a x (hashK w k) adding es.toList 0) Q E s := scanFrom_K hx ho hd hf hu es.toList ks 0 hl h
  cases x <;> try exact old
  rename_i y tk
  unfold setScan
  dsimp only
  split
  · unfold setScanStrs
    obtain ⟨n, rfl, rfl⟩ : ∃ n, y = sOf n ∧ k = .str n := by
      generalize hv : Value.str y tk = v at hx
      cases hx with
      | str n t _ => injection hv with e1 e2; exact ⟨n, e1, rfl⟩
      | int n t _ => cases hv
      | boo b n e => cases hv
      | tup n t a g => cases hv
    have hidx : es.findIdx? (fun e => e.2.isStr (sOf n)) = es.toList.findIdx? (fun e => e.2.isStr (sOf n)) := by cases es; simp
    rw [hidx]
    cases hr : es.toList.findIdx? (fun e => e.2.isStr (sOf n)) with
    | none =>
      refine wpAny_pure (h _ (.inl ⟨rfl, fun hm => ?_⟩))
      obtain ⟨i, hi⟩ := List.mem_iff_getElem?.mp hm
      obtain ⟨v, a1, a2⟩ := hl.at' i _ hi
      have := List.findIdx?_eq_none_iff.mp hr _ (List.mem_of_getElem? a1)
      rw [isStr_K a2] at this
      simp at this
    | some j =>
      obtain ⟨hj, hpj, _⟩ := List.findIdx?_eq_some_iff_getElem.mp hr
      have he : es[j]? = some (es.toList[j].1, es.toList[j].2) := by rw [← Array.getElem?_toList]; exact List.getElem?_eq_getElem hj
      obtain ⟨k', hk', _, hy⟩ := hl.back (List.getElem?_eq_getElem hj)
      rw [isStr_K hy] at hpj
      have hk2 := of_decide_eq_true hpj
      subst hk2
      have hmem := List.mem_of_getElem? hk'
      dsimp only
      rw [he]
      dsimp only
      refine wpAny_bind (wpAny_setEpoch_of ho hd hf ?_)
      refine wpAny_bind (eqBool_K hy hx hu ?_)
      cases adding
      · simp only [Bool.false_and, Bool.false_eq_true, ↓reduceIte]
        refine wpAny_bind (wpAny_setEpoch_of ho hd hf ?_)
        simp only [bne_self_eq_false, Bool.false_eq_true, ↓reduceIte, decide_true]
        exact wpAny_pure (h _ (.inr ⟨_, rfl, hmem⟩))
      · simp only [decide_true, Bool.and_self, ↓reduceIte]
        exact wpAny_pure (h _ (.inr ⟨_, rfl, hmem⟩))
  · exact old
end
end Mine
namespace Mine
open SetTable in
theorem Good.fits {t : SetTable} {hs : List Int} (g : Good t hs) {n : Nat} (hn : hs.length = n) (hl : hs.length ≤ t.mask) : t.fits n = true := by
  unfold SetTable.fits SetTable.fill
  rw [g.dum, g.len, hn, Bool.and_eq_true]
  exact ⟨beq_self_eq_true _, decide_eq_true (by rw [← hn]; simpa using hl)⟩
theorem Good.noWay {t : SetTable} {hs : List Int} (g : Good t hs) : t.gaveWay = false := by
  unfold SetTable.gaveWay
  rcases g.mask with e | e <;> rw [e] <;> rfl
section
variable {M : Model} {A : Around} {E : Value → Shared → Prop} {s : Shared}
theorem ite_seen {α : Type} {c : Prop} [Decidable c] {m : Sem Bool} {u r : Sem α} {Q : α → Shared → Prop} (hm : ∀ Q' : Bool → Shared → Prop, Q' false s → wpAny M A m Q' E s) (hr : wpAny M A r Q E s) : wpAny M A (if c then (do let b ← m; if b = true then u else r) else r) Q E s := by
  split
  · refine wpAny_bind (hm _ ?_)
    rw [if_neg Bool.false_ne_true]
    exact hr
  · exact hr
end
section
variable {prog : Program} {w : World} {A : Around} {E : Value → Shared → Prop} {s : Shared}
theorem quiet_K {v : Value} {k : Ky} {Q : Bool → Shared → Prop} (x : KyIn (AtH s.heap) v k) (h : Q true s) : wpAny (model prog w) A (eqIsQuiet 8 v) Q E s := by
  cases x with
  | int n t _ => rw [eqIsQuiet_byValue _ rfl]; exact wpAny_pure h
  | boo b n e => rw [eqIsQuiet_byValue _ rfl]; exact wpAny_pure h
  | str n t _ => rw [eqIsQuiet_byValue _ rfl]; exact wpAny_pure h
  | tup n t a g => exact wpAny_eqIsQuiet_tuple (tupKey (prog := prog) (w := w) g) h
theorem class_K {v : Value} {k : Ky} {Q : Bool → Shared → Prop} (x : KyIn (AtH s.heap) v k) (h : Q false s) : wpAny (model prog w) A (ofAClassStatement 8 v) Q E s := by
  cases x with
  | int n t _ => exact wpAny_pure h
  | boo b n e => exact wpAny_pure h
  | str n t _ => exact wpAny_pure h
  | tup n t a g =>
    have hT : s.TypeIs (.ref a) "tuple" := ⟨_, g, rfl⟩
    unfold ofAClassStatement
    refine wpAny_bind (wpAny_typeOf hT ?_)
    dsimp only
    rw [if_pos (by rfl)]
    refine wpAny_bind (wpAny_pure ?_)
    simp only [Bool.not_true, Bool.false_eq_true, if_false]
    refine wpAny_bind (wpAny_seqItems g rfl ?_)
    dsimp only
    refine wpAny_bind ?_
    rw [← Array.forIn_toList]
    refine wpAny_forIn_list _ (fun rest r s' => r.1 = none ∧ s' = s ∧ ∀ v ∈ rest, carriedByValue v = true) _ ?_ ?_ _ _ ⟨rfl, rfl, ?_⟩
    · rintro v rest r s' ⟨hr, rfl, hall⟩
      have hv := hall v List.mem_cons_self
      have e : ofAClassStatement 7 v = pure false := by
        cases v <;> first | rfl | (simp [carriedByValue] at hv)
      rw [e]
      refine wpAny_bind (wpAny_pure ?_)
      simp only [Bool.false_eq_true, if_false]
      exact wpAny_pure ⟨rfl, rfl, fun u hu' => hall u (List.mem_cons_of_mem _ hu')⟩
    · rintro ⟨r1, r2⟩ s' ⟨hr, rfl, _⟩
      simp only at hr
      subst hr
      exact wpAny_pure h
    · intro v hv
      simp at hv
      subst hv; rfl
theorem unseen_K {x : Value} {k : Ky} (hx : KyIn (AtH s.heap) x k) : ∀ (stored : List Value) {Q : Bool → Shared → Prop}, (∀ y ∈ stored, ∃ k', KyIn (AtH s.heap) y k') → Q false s → wpAny (model prog w) A (searchCouldBeSeen x stored) Q E s := by
  intro stored Q hs h
  unfold searchCouldBeSeen
  refine wpAny_bind ?_
  refine wpAny_forIn_list _ (fun rest r s' => r.1 = none ∧ s' = s ∧ ∀ y ∈ rest, ∃ k', KyIn (AtH s.heap) y k') _ ?_ ?_ _ _ ⟨rfl, rfl, hs⟩
  · rintro y rest r s' ⟨hr, rfl, hall⟩
    obtain ⟨k', hy⟩ := hall y List.mem_cons_self
    have fin : ∀ y ∈ rest, ∃ k', KyIn (AtH s'.heap) y k' := fun u hu' => hall u (List.mem_cons_of_mem _ hu')
    dsimp only
    refine wpAny_ite_split (fun _ => wpAny_pure ⟨rfl, rfl, fin⟩) fun _ => ?_
    refine wpAny_bind (quiet_K hx ?_)
    simp only [Bool.not_true, Bool.false_eq_true, if_false]
    refine wpAny_bind (quiet_K hy ?_)
    simp only [Bool.not_true, Bool.false_eq_true, if_false]
    refine wpAny_bind (class_K hx ?_)
    simp only [Bool.false_eq_true, if_false]
    refine wpAny_bind (class_K hy ?_)
    simp only [Bool.false_eq_true, if_false]
    exact wpAny_pure ⟨rfl, rfl, fin⟩
  · rintro ⟨r1, r2⟩ s' ⟨hr, rfl, _⟩
    simp only at hr
    subst hr
    exact wpAny_pure h
theorem searchFrom_K {a : Addr} {o : Obj} {es : Array (Int × Value)} {ep : Nat} {t : SetTable} {x : Value} {k : Ky} {ks : List Ky} {adding : Bool} {Q : SetFound → Shared → Prop}
    (hx : KyIn (AtH s.heap) x k) (ho : s.heap.get? a = some o) (hd : o.data = .set es ep t) (hl : Al w (AtH s.heap) es.toList ks) (g : Good t (es.toList.map (·.1))) (hsz : ks.length ≤ t.mask) (hu : A.units + 2 < cLine)
    (yes : k ∈ ks → ∀ r : Option Nat, (adding = false → r.isSome = true) → Q (.there r) s) {e0 : Nat} (he0 : J t.mask (hashK w k) e0 ∉ t.place.toList) (hm0 : ∀ m, m < e0 → J t.mask (hashK w k) m ∈ t.place.toList)
    (no : k ∉ ks → Q (.free (J t.mask (hashK w k) e0) false) s) (hroom : e0 < 10 * SetTable.turns t.mask) :
    ∀ (fuel n : Nat) (stand : Option SetTable.Probe), stand.getD (t.probeStart (hashK w k)) = PS t.mask (hashK w k) n → n ≤ e0 → e0 - n < fuel →
      (∀ (m : Nat), m < n → ∃ i : Nat, t.place[i]? = some (J t.mask (hashK w k) m) ∧ ks[i]? ≠ some k) → wpAny (model prog w) A (setSearchFrom a x (hashK w k) adding fuel stand) Q E s
  | 0, n, stand, hst, hn, hf, hseen => by omega
  | fuel + 1, n, stand, hst, hn, hf, hseen => by
    have hlen : es.toList.length = ks.length := hl.len
    have hfit : t.fits es.size = true := g.fits (by simp) (by rw [List.length_map, hlen]; exact hsz)
    unfold setSearchFrom
    refine wpAny_bind (wpAny_setState_of ho hd hfit ?_)
    dsimp only
    rw [if_neg (by rw [g.noWay]; exact Bool.false_ne_true)]
    generalize hq : t.probe _ (hashK w k) (stand.getD (t.probeStart (hashK w k))) = met
    obtain ⟨e, hne, hbt, hev⟩ := go_spec g.dum g.inc (fun i => (es[i]?.map (·.1)).getD 0) (hashK w k) (10 * SetTable.turns t.mask) n ⟨e0, hn, by omega, he0⟩
    have heE : e ≤ e0 := by
      refine Classical.byContradiction fun hc => ?_
      obtain ⟨i, hi, _⟩ := hbt e0 hn (by omega)
      exact he0 (List.mem_of_getElem? (by rw [Array.getElem?_toList]; exact hi))
    have hash_at : ∀ (i j : Nat), t.place[i]? = some j → ∃ k' v, ks[i]? = some k' ∧ es[i]? = some (hashK w k', v) ∧ KyIn (AtH s.heap) v k' := fun i j hi => by
      have h1 : i < es.toList.length := by
        have := (Array.getElem?_eq_some_iff.mp hi).1
        rw [g.len, List.length_map] at this; exact this
      obtain ⟨k', a1, a2, a3⟩ := hl.back (List.getElem?_eq_getElem h1)
      refine ⟨k', _, a1, ?_, a3⟩
      rw [← Array.getElem?_toList, List.getElem?_eq_getElem h1, ← a2]
    have seen2 : ∀ (m : Nat), m < e → ∃ i : Nat, t.place[i]? = some (J t.mask (hashK w k) m) ∧ ks[i]? ≠ some k := fun m hm => by
      by_cases hc : m < n
      · exact hseen m hc
      · obtain ⟨i, hi, hh⟩ := hbt m (by omega) hm
        refine ⟨i, hi, fun hk => ?_⟩
        obtain ⟨k', v, b1, b2, b3⟩ := hash_at i _ hi
        rw [hk] at b1
        cases b1
        rw [b2] at hh
        simp at hh
    rcases hev with ⟨hfree, hgo⟩ | ⟨i, hi, hhash, hgo⟩
    · have hmet : met = some (.empty (J t.mask (hashK w k) e) none) := by
        rw [← hq, hst]; exact hgo
      subst hmet
      have hee : e = e0 := by
        refine Classical.byContradiction fun hc => ?_
        exact hfree (hm0 e (by omega))
      subst hee
      dsimp only
      refine wpAny_pure (no fun hmem => ?_)
      obtain ⟨i, hki⟩ := List.mem_iff_getElem?.mp hmem
      obtain ⟨v, b1, b2⟩ := hl.at' i k hki
      have hip : i < t.place.size := by
        rw [g.len, List.length_map, hlen]; exact (List.getElem?_eq_some_iff.mp hki).1
      obtain ⟨ni, c1, c2⟩ := g.path i t.place[i] (hashK w k) (Array.getElem?_eq_getElem hip) (by rw [List.getElem?_map, b1]; rfl)
      have hlt : ni < e := by
        rcases Nat.lt_trichotomy ni e with h | h | h
        · exact h
        · subst h
          refine absurd ?_ hfree
          rw [c1, ← Array.getElem_toList]
          exact List.getElem_mem _
        · exact absurd (c2 e h) hfree
      obtain ⟨i', d1, d2⟩ := seen2 ni hlt
      rw [c1] at d1
      have hii : i' = i := by
        have x1 := below_at g.inc d1
        have x2 := below_at g.inc (Array.getElem?_eq_getElem hip)
        omega
      rw [hii] at d2
      exact d2 hki
    · have hmet : met = some (.candidate (J t.mask (hashK w k) e) i (PS t.mask (hashK w k) (e + 1))) := by
        rw [← hq, hst]; exact hgo
      subst hmet
      dsimp only
      obtain ⟨k', v, b1, b2, b3⟩ := hash_at i _ hi
      refine ite_seen (fun Q' hq' => unseen_K hx _ (fun y hy => ?_) hq') ?_
      · obtain ⟨e', he', rfl⟩ := List.mem_map.mp hy
        have he'' : e' ∈ es.toList := by
          rw [Array.toList_filter] at he'
          exact (List.mem_filter.mp he').1
        obtain ⟨i', hi'⟩ := List.mem_iff_getElem?.mp he''
        obtain ⟨k'', _, _, c3⟩ := hl.back hi'
        exact ⟨k'', c3⟩
      rw [b2]
      dsimp only
      refine wpAny_bind (wpAny_holding (eqBool_K b3 hx hu ?_))
      refine wpAny_bind (wpAny_setState_of ho hd hfit ?_)
      dsimp only
      have hsame : t.sameMemory t.moves t.mask = some true := by
        unfold SetTable.sameMemory
        rw [if_pos (beq_self_eq_true _)]
      rw [hsame, slot_live g.inc hi]
      dsimp only
      by_cases hkk : k' = k
      · subst hkk
        have hmem := List.mem_of_getElem? b1
        rw [decide_eq_true rfl]
        cases adding
        · simp only [Bool.false_and, Bool.false_eq_true, ↓reduceIte]
          rw [b2]
          dsimp only
          refine wpAny_bind (same_K b3 ?_)
          refine wpAny_bind (wpAny_pure ?_)
          simp only [↓reduceIte]
          exact wpAny_pure (yes hmem _ fun _ => rfl)
        · simp only [Bool.and_self, ↓reduceIte]
          exact wpAny_pure (yes hmem _ nofun)
      · rw [decide_eq_false hkk]
        simp only [Bool.and_false, Bool.false_eq_true, ↓reduceIte]
        rw [b2]
        dsimp only
        refine wpAny_bind (same_K b3 ?_)
        refine wpAny_bind (wpAny_pure ?_)
        simp only [↓reduceIte]
        have hlt : e < e0 := by
          rcases Nat.lt_or_ge e e0 with h | h
          · exact h
          · have : e = e0 := by omega
            subst this
            exact absurd (List.mem_of_getElem? (by rw [Array.getElem?_toList]; exact hi)) he0
        refine searchFrom_K hx ho hd hl g hsz hu yes he0 hm0 no hroom fuel (e + 1) _ rfl (by omega) (by omega) fun m hm => ?_
        by_cases hc : m = e
        · subst hc
          exact ⟨i, hi, fun hk => hkk (by rw [b1] at hk; exact Option.some.inj hk)⟩
        · exact seen2 m (by omega)
end
end Mine
namespace Mine
open SetTable (below insertAt)
def allKy : List Ky := [.int 0, .int 1, .int 2, .str 0, .str 1, .str 2, .tup 0, .tup 1, .tup 2]
theorem allKy_mem (k : Ky) : k ∈ allKy := by
  rcases k with n | n | n
  all_goals revert n; decide
theorem sub_lenK : ∀ {l l' : List Ky}, l.Nodup → (∀ x ∈ l, x ∈ l') → l.length ≤ l'.length
  | [], _, _, _ => Nat.zero_le _
  | a :: r, l', hn, hs => by
    obtain ⟨h1, h2⟩ := List.nodup_cons.mp hn
    have ha := hs a (.head _)
    have := sub_lenK (l' := l'.erase a) h2 fun x hx => (List.mem_erase_of_ne (fun e => h1 (by rw [← e]; exact hx))).mpr (hs x (.tail _ hx))
    rw [List.length_erase_of_mem ha] at this
    have hp := List.length_pos_of_mem ha
    rw [List.length_cons]; omega
theorem turns_le {m : Nat} (h : Mask m) : SetTable.turns m ≤ 46 := by
  unfold SetTable.turns
  rcases h with e | e <;> omega
theorem nine {ks : List Ky} (h : ks.Nodup) : ks.length ≤ 9 := sub_lenK (l' := allKy) h fun x _ => allKy_mem x
abbrev setObj (es : Array (Int × Value)) (ep : Nat) (t : SetTable) : Obj := { cls := .type "set", dict := none, data := .set es ep t, slots := #[] }
/-- a set object with just these keys -/
structure SetIs (w : World) (G : Addr → Obj → Prop) (es : Array (Int × Value)) (t : SetTable) (ks : List Ky) : Prop where
  al : Al w G es.toList ks
  nd : ks.Nodup
  good : Good t (es.toList.map (·.1))
  room : t.mask = 7 → ks.length ≤ 4
def SetK (w : World) (G : Addr → Obj → Prop) (so : Obj) (ks : List Ky) : Prop := ∃ es ep t, so = setObj es ep t ∧ SetIs w G es t ks
theorem SetIs.mono {w : World} {G G' : Addr → Obj → Prop} (h : ∀ a o, G a o → G' a o) {es : Array (Int × Value)} {t : SetTable} {ks : List Ky} (x : SetIs w G es t ks) : SetIs w G' es t ks := ⟨x.al.mono h, x.nd, x.good, x.room⟩
theorem SetK.mono {w : World} {G G' : Addr → Obj → Prop} (h : ∀ a o, G a o → G' a o) {so : Obj} {ks : List Ky} (x : SetK w G so ks) : SetK w G' so ks := by
  obtain ⟨es, ep, t, e, y⟩ := x
  exact ⟨es, ep, t, e, y.mono h⟩
theorem SetIs.fit {w : World} {G : Addr → Obj → Prop} {es : Array (Int × Value)} {t : SetTable} {ks : List Ky} (x : SetIs w G es t ks) : ks.length ≤ t.mask := by
  have := nine x.nd
  rcases x.good.mask with e | e
  · have := x.room e; omega
  · omega
theorem SetIs.fits {w : World} {G : Addr → Obj → Prop} {es : Array (Int × Value)} {t : SetTable} {ks : List Ky} (x : SetIs w G es t ks) : t.fits es.size = true :=
  x.good.fits (by simp) (by rw [List.length_map, x.al.len]; exact x.fit)
theorem SetIs.size {w : World} {G : Addr → Obj → Prop} {es : Array (Int × Value)} {t : SetTable} {ks : List Ky} (x : SetIs w G es t ks) : es.size = ks.length := by rw [← x.al.len]; simp
section
variable {prog : Program} {w : World} {A : Around} {E : Value → Shared → Prop} {s : Shared}
theorem setFind_K {a : Addr} {so : Obj} {ks : List Ky} {x : Value} {k : Ky} {Q : Option Nat → Shared → Prop} (hx : KyIn (AtH s.heap) x k) (ho : s.heap.get? a = some so) (hS : SetK w (AtH s.heap) so ks) (hu : A.units + 2 < cLine)
    (h : ∀ r : Option Nat, r.isSome = decide (k ∈ ks) → Q r s) : wpAny (model prog w) A (setFind a x (hashK w k)) Q E s := by
  obtain ⟨es, ep, t, rfl, hI⟩ := hS
  unfold setFind setFindIn
  refine wpAny_bind (wpAny_setState_of ho rfl hI.fits ?_)
  dsimp only
  have search : wpAny (model prog w) A (setSearch a x (hashK w k)) (fun met s' => wpAny (model prog w) A (match met with | .there i => pure i | .free .. => pure none) Q E s') E s := by
    obtain ⟨e0, he1, he2, _⟩ := probe_free hI.good (by rw [List.length_map, hI.al.len]; exact hI.fit) (hashK w k)
    obtain ⟨e', he', hne'⟩ := hI.good.room (by rw [List.length_map, hI.al.len]; exact hI.fit) (hashK w k)
    have hlt : e0 < 10 * SetTable.turns t.mask := by
      rcases Nat.lt_or_ge e' e0 with hc | hc
      · exact absurd (he2 e' hc) hne'
      · omega
    unfold setSearch
    refine searchFrom_K (adding := false) hx ho rfl hI.al hI.good hI.fit hu (fun hm r hr => wpAny_pure (h r ?_)) he1 he2 (fun hm => wpAny_pure (h none ?_)) hlt 100000 0 none rfl (Nat.zero_le _) (by have := turns_le hI.good.mask; omega) (fun m hm => by omega)
    · rw [hr rfl, decide_eq_true hm]
    · rw [decide_eq_false hm]; rfl
  by_cases hb : byScan x es = true
  · rw [if_pos hb]
    refine wpAny_bind (wpAny_rule ?_)
    refine wpAny_bind (scan_K hx ho rfl hI.fits hu hI.al fun r hr => ?_)
    rcases hr with ⟨rfl, hn⟩ | ⟨j, rfl, hm⟩
    · exact wpAny_pure (h none (by rw [decide_eq_false hn]; rfl))
    · exact wpAny_pure (h (some j) (by rw [decide_eq_true hm]; rfl))
  · rw [if_neg hb]
    exact wpAny_bind search
end
theorem Good.plain {t : SetTable} {hs : List Int} (g : Good t hs) (b : Bool) : Good { t with plain := b } hs := ⟨g.dum, g.inc, g.mask, g.len, g.le, g.path⟩
theorem Al.ins {w : World} {G : Addr → Obj → Prop} {l : List (Int × Value)} {ks : List Ky} (x : Al w G l ks) {p : Nat} (hp : p ≤ ks.length) {k : Ky} {v : Value} (hv : KyIn G v k) : Al w G (l.take p ++ (hashK w k, v) :: l.drop p) (ks.take p ++ k :: ks.drop p) := by
  have hp' : p ≤ l.length := by rw [x.len]; exact hp
  refine ⟨?_, fun i k' hk => ?_⟩
  · simp only [List.length_append, List.length_cons, List.length_take, List.length_drop, x.len]
  · rw [ins_get hp] at hk
    rw [ins_get hp']
    by_cases c1 : i < p
    · rw [if_pos c1] at hk ⊢
      exact x.at' i k' hk
    · rw [if_neg c1] at hk ⊢
      by_cases c2 : i = p
      · rw [if_pos c2] at hk ⊢
        cases hk
        exact ⟨v, rfl, hv⟩
      · rw [if_neg c2] at hk ⊢
        exact x.at' _ k' hk
theorem nodup_ins {ks : List Ky} {p : Nat} {k : Ky} (h : ks.Nodup) (hk : k ∉ ks) : (ks.take p ++ k :: ks.drop p).Nodup := by
  have e : (ks.take p ++ k :: ks.drop p).Perm (k :: ks) := by
    refine List.perm_middle.trans ?_
    rw [List.take_append_drop]
  exact e.nodup_iff.mpr (List.nodup_cons.mpr ⟨hk, h⟩)
theorem len_ins {ks : List Ky} {p : Nat} {k : Ky} : (ks.take p ++ k :: ks.drop p).length = ks.length + 1 := by
  have e : (ks.take p ++ k :: ks.drop p).Perm (k :: ks) := by
    refine List.perm_middle.trans ?_
    rw [List.take_append_drop]
  exact e.length_eq
/-- the table with one more, before it is laid anew -/
theorem SetIs.put {w : World} {G : Addr → Obj → Prop} {es : Array (Int × Value)} {t : SetTable} {ks : List Ky} (x : SetIs w G es t ks) {k : Ky} {v : Value} (hk : k ∉ ks) (hv : KyIn G v k) {e : Nat} (hn : J t.mask (hashK w k) e ∉ t.place.toList) (hm : ∀ m, m < e → J t.mask (hashK w k) m ∈ t.place.toList) :
    ∃ ks', (t.put (J t.mask (hashK w k) e)).1.mask = t.mask ∧ Al w G (insertAt es (t.put (J t.mask (hashK w k) e)).2 (hashK w k, v)).toList ks' ∧ ks'.Nodup ∧ Good (t.put (J t.mask (hashK w k) e)).1 ((insertAt es (t.put (J t.mask (hashK w k) e)).2 (hashK w k, v)).toList.map (·.1)) ∧ (∀ j, j ∈ ks' ↔ j ∈ ks ∨ j = k) ∧ ks'.length = ks.length + 1 ∧ ks'.length ≤ 9 := by
  obtain ⟨h1, h2⟩ := x.good.put hn hm (J_le _ _ _)
  have hp : below t.place (J t.mask (hashK w k) e) ≤ ks.length := by
    rw [List.length_map, x.al.len] at h1; exact h1
  have hp' : below t.place (J t.mask (hashK w k) e) ≤ es.size := by rw [x.size]; exact hp
  have nd := nodup_ins (p := below t.place (J t.mask (hashK w k) e)) x.nd hk
  refine ⟨ks.take (below t.place (J t.mask (hashK w k) e)) ++ k :: ks.drop (below t.place (J t.mask (hashK w k) e)), ?_, ?_, nd, ?_, ?_, len_ins, nine nd⟩
  · rw [put_place x.good.dum]
  · rw [show (t.put (J t.mask (hashK w k) e)).2 = below t.place (J t.mask (hashK w k) e) from rfl, insertAt_toList es _ _ hp']
    exact x.al.ins hp hv
  · have e2 : ((insertAt es (t.put (J t.mask (hashK w k) e)).2 (hashK w k, v)).toList.map (·.1)) = (es.toList.map (·.1)).take (below t.place (J t.mask (hashK w k) e)) ++ hashK w k :: (es.toList.map (·.1)).drop (below t.place (J t.mask (hashK w k) e)) := by
      rw [show (t.put (J t.mask (hashK w k) e)).2 = below t.place (J t.mask (hashK w k) e) from rfl, insertAt_toList es _ _ hp', List.map_append, List.map_cons, List.map_take, List.map_drop]
    rw [e2]; exact h2
  · intro j
    rw [mem_ins]
    exact or_comm
theorem fm_range {α : Type} (xs : List α) : (List.range xs.length).filterMap (xs[·]?) = xs := by
  apply List.ext_getElem?
  intro i
  have lt : ∀ i ∈ List.range xs.length, i < xs.length := fun i hi => List.mem_range.mp hi
  rw [fm_get xs _ lt]
  by_cases h : i < xs.length
  · rw [List.getElem?_range h]; rfl
  · rw [List.getElem?_eq_none (by rw [List.length_range]; omega), List.getElem?_eq_none (by omega)]; rfl
/-- laid anew -/
theorem relay_K {w : World} {G : Addr → Obj → Prop} {es : Array (Int × Value)} {ks : List Ky} (t : SetTable) {wanted : Nat} (hM : SetTable.sizeAbove wanted - 1 = 31) (al : Al w G es.toList ks) (nd : ks.Nodup) (hl : ks.length ≤ 9) :
    ∃ t' order ks', t.relaid (es.map (·.1)) wanted = some (t', order) ∧ (order.filterMap (es[·]?)).size = es.size ∧ coversAll order es.size = true ∧ SetIs w G (order.filterMap (es[·]?)) t' ks' ∧ ks'.Perm ks ∧ t'.fits es.size = true := by
  have hsz : es.size = ks.length := by rw [← al.len]; simp
  have hh : (es.map (·.1)).toList = es.toList.map (·.1) := by simp
  have hlen : (es.map (·.1)).toList.length = ks.length := by rw [hh, List.length_map, al.len]
  obtain ⟨t', order, h1, h2, h3, h4, h5, h6, h7⟩ := relaid_spec t (hashes := es.map (·.1)) (wanted := wanted) (by rw [hM]; exact .inr rfl) (by rw [hlen, hM]; omega)
  rw [hlen] at h4 h7
  have lt : ∀ i ∈ order.toList, i < ks.length := fun i hi => List.mem_range.mp (h4.mem_iff.mp hi)
  have etl : (order.filterMap (es[·]?)).toList = order.toList.filterMap (es.toList[·]?) := by
    rw [Array.toList_filterMap]
    congr 1
    funext i
    rw [Array.getElem?_toList]
  have pm : (order.toList.filterMap (ks[·]?)).Perm ks := by
    have := h4.filterMap (ks[·]?)
    rw [fm_range] at this
    exact this
  have lt2 : ∀ i ∈ order.toList, i < es.toList.length := fun i hi => by rw [al.len]; exact lt i hi
  have hal : Al w G (order.filterMap (es[·]?)).toList (order.toList.filterMap (ks[·]?)) := by
    rw [etl]
    refine ⟨by rw [fm_len _ _ lt2, fm_len _ _ lt], fun i k hk => ?_⟩
    rw [fm_get _ _ lt] at hk
    rw [fm_get _ _ lt2]
    cases ho : order.toList[i]? with
    | none => rw [ho] at hk; simp at hk
    | some j =>
      rw [ho] at hk
      exact al.at' j k (by simpa using hk)
  refine ⟨t', order, order.toList.filterMap (ks[·]?), h1, ?_, ?_, ⟨hal, pm.nodup_iff.mpr nd, ?_, fun e => by omega⟩, pm, ?_⟩
  · rw [← Array.length_toList, etl, fm_len _ _ lt2, h4.length_eq, List.length_range, hsz]
  · unfold coversAll
    rw [hsz]
    exact List.isPerm_iff.mpr h4
  · have e2 : (order.filterMap (es[·]?)).toList.map (·.1) = order.toList.filterMap ((es.map (·.1)).toList[·]?) := by
      rw [etl, hh]
      apply List.ext_getElem?
      intro i
      rw [List.getElem?_map, fm_get _ _ lt2, fm_get _ _ (by rw [List.length_map]; exact lt2)]
      cases order.toList[i]? with
      | none => rfl
      | some j => simp
    rw [e2]; exact h2
  · exact h2.fits (by rw [fm_len _ _ (by rw [hlen]; exact lt), h4.length_eq, List.length_range, hsz]) (by rw [fm_len _ _ (by rw [hlen]; exact lt), h4.length_eq, List.length_range]; omega)
section
variable {prog : Program} {w : World} {A : Around} {E : Value → Shared → Prop} {s : Shared}
theorem byValue_K {v : Value} {k : Ky} {Q : Bool → Shared → Prop} (x : KyIn (AtH s.heap) v k) (h : ∀ b, Q b s) : wpAny (model prog w) A (hashByValue 8 v) Q E s := by
  cases x with
  | int n t _ => exact wpAny_pure (h _)
  | boo b n e => exact wpAny_pure (h _)
  | str n t _ => exact wpAny_pure (h _)
  | tup n t a g =>
    have hT : s.TypeIs (.ref a) "tuple" := ⟨_, g, rfl⟩
    unfold hashByValue
    refine wpAny_bind (wpAny_specialOf hT F.slot_tuple_hash.lookup ?_)
    dsimp only
    refine wpAny_bind (wpAny_seqItems g rfl ?_)
    dsimp only [Option.getD]
    refine wpAny_bind ?_
    rw [← Array.forIn_toList]
    refine wpAny_forIn_list _ (fun rest r s' => r.1 = none ∧ s' = s ∧ ∀ v ∈ rest, ∃ i t, v = Value.int i t) _ ?_ ?_ _ _ ⟨rfl, rfl, ?_⟩
    · rintro v rest r s' ⟨hr, rfl, hall⟩
      obtain ⟨i, t', rfl⟩ := hall v List.mem_cons_self
      rw [show hashByValue 7 (Value.int i t') = pure true from rfl]
      refine wpAny_bind (wpAny_pure ?_)
      simp only [Bool.not_true, Bool.false_eq_true, if_false]
      exact wpAny_pure ⟨rfl, rfl, fun u hu' => hall u (List.mem_cons_of_mem _ hu')⟩
    · rintro ⟨r1, r2⟩ s' ⟨hr, rfl, _⟩
      simp only at hr
      subst hr
      exact wpAny_pure (h _)
    · intro v hv
      simp at hv
      exact ⟨_, _, hv⟩
theorem tooFull_K {t : SetTable} {hs : List Int} (g : Good t hs) (h9 : hs.length ≤ 9) : t.tooFull = decide (t.mask = 7 ∧ 5 ≤ hs.length) := by
  unfold SetTable.tooFull SetTable.fill
  rw [g.dum, g.len, Bool.eq_iff_iff, decide_eq_true_iff, decide_eq_true_iff]
  simp only [List.size_toArray, List.length_nil, Nat.add_zero]
  rcases g.mask with e | e <;> omega
/-- what an add leaves behind -/
def Added (w : World) (G : Addr → Obj → Prop) (s : Shared) (a : Addr) (ks : List Ky) (k : Ky) (s' : Shared) : Prop :=
  ∃ h' so' ks', s' = { s with heap := h' } ∧ Heap.SameBut a s.heap h' ∧ h'.get? a = some so' ∧ SetK w G so' ks' ∧ (∀ j, j ∈ ks' ↔ j ∈ ks ∨ j = k)
theorem put_get {h : Heap} {a : Addr} {es es' : Array (Int × Value)} {ep : Nat} {t t' : SetTable} (ho : h.get? a = some (setObj es ep t)) : (h.update a (Obj.putSet es' t')).get? a = some (setObj es' (ep + 1) t') := by
  have := Heap.get?_update_self (Obj.putSet es' t') ho (by rfl)
  exact this
end
end Mine
namespace Mine
open SetTable (below insertAt)
section
variable {prog : Program} {w : World} {A : Around} {E : Value → Shared → Prop} {s : Shared} {G : Addr → Obj → Prop}
theorem Added.old {a : Addr} {so : Obj} {ks : List Ky} {k : Ky} (ho : s.heap.get? a = some so) (hS : SetK w G so ks) (hm : k ∈ ks) : Added w G s a ks k s :=
  ⟨s.heap, so, ks, rfl, ⟨rfl, fun _ _ => rfl⟩, ho, hS, fun _ => ⟨.inl, fun h => h.elim id fun e => e ▸ hm⟩⟩
/-- behind the first store: either done, or laid anew -/
theorem added_end {a : Addr} {es es1 : Array (Int × Value)} {ep : Nat} {t t2 : SetTable} {ks ks1 : List Ky} {k : Ky} (ho : s.heap.get? a = some (setObj es ep t)) (al : Al w G es1.toList ks1) (nd : ks1.Nodup) (g : Good t2 (es1.toList.map (·.1))) (hroom : t2.mask = 7 → ks1.length ≤ 4) (hmem : ∀ j, j ∈ ks1 ↔ j ∈ ks ∨ j = k) :
    Added w G s a ks k { s with heap := s.heap.update a (Obj.putSet es1 t2) } := by
  have sb : Heap.SameBut a s.heap (s.heap.update a (Obj.putSet es1 t2)) := Heap.SameBut.update ..
  exact ⟨_, _, ks1, rfl, sb, put_get ho, ⟨es1, ep + 1, t2, rfl, al, nd, g, hroom⟩, hmem⟩
theorem added_relay {a : Addr} {es es1 es2 : Array (Int × Value)} {ep : Nat} {t t2 t3 : SetTable} {ks ks1 ks2 : List Ky} {k : Ky} (ho : s.heap.get? a = some (setObj es ep t)) (hI : SetIs w G es2 t3 ks2) (pm : ks2.Perm ks1) (hmem : ∀ j, j ∈ ks1 ↔ j ∈ ks ∨ j = k) :
    Added w G s a ks k { s with heap := (s.heap.update a (Obj.putSet es1 t2)).update a (Obj.putSet es2 t3) } := by
  have sb : Heap.SameBut a s.heap (s.heap.update a (Obj.putSet es1 t2)) := Heap.SameBut.update ..
  have sb2 : Heap.SameBut a (s.heap.update a (Obj.putSet es1 t2)) ((s.heap.update a (Obj.putSet es1 t2)).update a (Obj.putSet es2 t3)) := Heap.SameBut.update ..
  have sb3 : Heap.SameBut a s.heap ((s.heap.update a (Obj.putSet es1 t2)).update a (Obj.putSet es2 t3)) := ⟨sb2.1.trans sb.1, fun b hb => (sb2.2 b hb).trans (sb.2 b hb)⟩
  exact ⟨_, _, ks2, rfl, sb3, put_get (put_get ho), ⟨es2, _, t3, rfl, hI⟩, fun j => by rw [pm.mem_iff]; exact hmem j⟩
theorem size9 {n : Nat} (h : n ≤ 9) : n ≤ sizeLine := by rw [sizeLine_eq]; omega
theorem layNew_K {es : Array (Int × Value)} {t : SetTable} {ks : List Ky} (hI : SetIs w G es t ks) {x : Value} {k : Ky} (hx : KyIn G x k) (hk : k ∉ ks) :
    ∃ es1 t1 ks1, layNew t es (hashK w k) x = (es1, t1, false, false) ∧ t1.mask = t.mask ∧ Al w G es1.toList ks1 ∧ ks1.Nodup ∧ Good t1 (es1.toList.map (·.1)) ∧ (∀ j, j ∈ ks1 ↔ j ∈ ks ∨ j = k) ∧ ks1.length = ks.length + 1 ∧ ks1.length ≤ 9 ∧ t1.plain = t.plain := by
  obtain ⟨e, h1, h2, h3⟩ := probe_free hI.good (by rw [List.length_map, hI.al.len]; exact hI.fit) (hashK w k)
  obtain ⟨ks1, m1, al, nd, g, hmem, hlen, h9⟩ := hI.put hk hx h1 h2
  have hfit1 : ((t.put (J t.mask (hashK w k) e)).1).fits (insertAt es (t.put (J t.mask (hashK w k) e)).2 (hashK w k, x)).size = true := by
    refine g.fits (by simp) ?_
    rw [List.length_map, al.len, m1]
    rcases hI.good.mask with e | e
    · have := hI.room e; omega
    · omega
  refine ⟨_, _, ks1, ?_, m1, al, nd, g, hmem, hlen, h9, ?_⟩
  · unfold layNew
    rw [h3]
    dsimp only
    unfold SetTable.orStandIn
    rw [hfit1, if_pos rfl]
    rfl
  · rw [put_place hI.good.dum]
theorem grown5 {n : Nat} (h : n = 5) : SetTable.sizeAbove (SetTable.grown n) - 1 = 31 := by subst h; decide
theorem tail_K {gv : Bool → Sem Unit} (hgv : gv false = pure ()) {a : Addr} {es es1 : Array (Int × Value)} {ep : Nat} {t t2 : SetTable} {ks ks1 : List Ky} {k : Ky} {Q : Option Bool → Shared → Prop} (ho : s.heap.get? a = some (setObj es ep t)) (al : Al w G es1.toList ks1) (nd : ks1.Nodup) (g : Good t2 (es1.toList.map (·.1))) (hmem : ∀ j, j ∈ ks1 ↔ j ∈ ks ∨ j = k) (h5 : t2.mask = 7 → ks1.length ≤ 5)
    (h : ∀ b s', Added w G s a ks k s' → Q (some b) s') : wpAny (model prog w) A (do
        storeSet a es1 t2
        if (!false && t2.tooFull) = true then do
            gv (relayAll t2 es1 (SetTable.grown es1.size)).2.2
            storeSet a (relayAll t2 es1 (SetTable.grown es1.size)).1 (relayAll t2 es1 (SetTable.grown es1.size)).2.1
            pure (some true)
          else pure (some true)) Q E s := by
  have h9 := nine nd
  have hsz : es1.size = ks1.length := by rw [← al.len]; simp
  refine wpAny_bind (wpAny_storeSet_of ho rfl ?_ (by rw [hsz]; exact size9 h9))
  have hfull := tooFull_K g (by rw [List.length_map, al.len]; exact h9)
  rw [List.length_map, al.len] at hfull
  rw [hfull]
  by_cases hc : t2.mask = 7 ∧ 5 ≤ ks1.length
  · rw [decide_eq_true hc]
    simp only [Bool.not_false, Bool.and_self, if_true]
    have e5 : es1.size = 5 := by have := h5 hc.1; omega
    obtain ⟨t3, order, ks2, r1, r2, r3, r4, r5, r6⟩ := relay_K t2 (wanted := SetTable.grown es1.size) (grown5 e5) al nd h9
    have hrl : relayAll t2 es1 (SetTable.grown es1.size) = (order.filterMap (es1[·]?), t3, false) := by
      unfold relayAll
      rw [r1]
      dsimp only
      rw [r3, r2, r6]
      rfl
    rw [hrl]
    dsimp only
    refine wpAny_bind (wpAny_of_eq hgv ?_)
    refine wpAny_bind (wpAny_storeSet_of (put_get ho) rfl ?_ (by rw [r2, e5]; exact size9 (by decide)))
    exact wpAny_pure (h _ _ (added_relay ho r4 r5 hmem))
  · rw [decide_eq_false hc]
    simp only [Bool.not_false, Bool.and_false, Bool.false_eq_true, if_false]
    exact wpAny_pure (h _ _ (added_end ho al nd g (fun e => by omega) hmem))
theorem addByScan_K {a : Addr} {es : Array (Int × Value)} {ep : Nat} {t : SetTable} {ks : List Ky} {x : Value} {k : Ky} {Q : Option Bool → Shared → Prop} (hG : ∀ a o, G a o → s.heap.get? a = some o) (hx : KyIn G x k) (ho : s.heap.get? a = some (setObj es ep t)) (hI : SetIs w G es t ks) (hu : A.units + 2 < cLine)
    (h : ∀ b s', Added w G s a ks k s' → Q (some b) s') : wpAny (model prog w) A (setAddByScan a x (hashK w k) es t) Q E s := by
  unfold setAddByScan
  refine wpAny_bind (wpAny_rule ?_)
  refine wpAny_bind (scan_K (hx.mono hG) ho rfl hI.fits hu (hI.al.mono hG) fun r hr => ?_)
  rcases hr with ⟨rfl, hn⟩ | ⟨j, rfl, hm⟩
  · obtain ⟨es1, t1, ks1, hlay, m1, al, nd, g, hmem, hlen, h9, hpl⟩ := layNew_K hI hx hn
    dsimp only
    rw [hlay]
    dsimp only
    refine wpAny_bind (wpAny_of_eq (a := ()) rfl ?_)
    have h5 : t1.mask = 7 → ks1.length ≤ 5 := fun e => by have := hI.room (m1 ▸ e); omega
    have tl : ∀ bv : Bool, Good (if bv = true then t1 else { t1 with plain := false }) (es1.toList.map (·.1)) ∧ (if bv = true then t1 else { t1 with plain := false }).mask = t1.mask := fun bv => by
      cases bv
      · exact ⟨g.plain false, rfl⟩
      · exact ⟨g, rfl⟩
    refine wpAny_ite_split (fun _ => ?_) (fun _ => ?_)
    · refine wpAny_bind (byValue_K (hx.mono hG) fun bv => ?_)
      exact tail_K rfl ho al nd (tl bv).1 hmem (by rw [(tl bv).2]; exact h5) h
    · refine wpAny_bind (wpAny_pure ?_)
      exact tail_K rfl ho al nd (tl true).1 hmem (by rw [(tl true).2]; exact h5) h
  · exact wpAny_pure (h _ _ (Added.old ho ⟨es, ep, t, rfl, hI⟩ hm))
theorem tail2_K {a : Addr} {es es1 : Array (Int × Value)} {ep n : Nat} {t t2 : SetTable} {ks ks1 : List Ky} {k : Ky} {Q : Bool → Shared → Prop} (ho : s.heap.get? a = some (setObj es ep t)) (al : Al w G es1.toList ks1) (nd : ks1.Nodup) (g : Good t2 (es1.toList.map (·.1))) (hmem : ∀ j, j ∈ ks1 ↔ j ∈ ks ∨ j = k) (h5 : t2.mask = 7 → ks1.length ≤ 5) (hn : n = ks1.length)
    (h : ∀ b s', Added w G s a ks k s' → Q b s') : wpAny (model prog w) A (do
        storeSet a es1 t2
        if (!false && t2.tooFull) = true then do
            setRelay a (SetTable.grown n)
            pure true
          else pure true) Q E s := by
  subst hn
  have h9 := nine nd
  have hsz : es1.size = ks1.length := by rw [← al.len]; simp
  refine wpAny_bind (wpAny_storeSet_of ho rfl ?_ (by rw [hsz]; exact size9 h9))
  have hfull := tooFull_K g (by rw [List.length_map, al.len]; exact h9)
  rw [List.length_map, al.len] at hfull
  rw [hfull]
  by_cases hc : t2.mask = 7 ∧ 5 ≤ ks1.length
  · rw [decide_eq_true hc]
    simp only [Bool.not_false, Bool.and_self, if_true]
    have e5 : ks1.length = 5 := by have := h5 hc.1; omega
    obtain ⟨t3, order, ks2, r1, r2, r3, r4, r5, r6⟩ := relay_K t2 (wanted := SetTable.grown ks1.length) (grown5 e5) al nd h9
    have hf2 : t2.fits es1.size = true := g.fits (by simp) (by rw [List.length_map, al.len]; omega)
    refine wpAny_bind ?_
    unfold setRelay
    refine wpAny_bind (wpAny_setState_of (put_get ho) rfl hf2 ?_)
    dsimp only
    rw [if_neg (by rw [e5, sizeLine_eq]; decide), r1]
    refine wpAny_bind (wpAny_of_eq (a := (order.filterMap (es1[·]?), t3)) ?_ ?_)
    · show (if ((order.filterMap (es1[·]?)).size != es1.size) = true then _ else pure (order.filterMap (es1[·]?), t3)) = _
      rw [if_neg (by rw [r2, bne_self_eq_false]; exact Bool.false_ne_true)]
    · dsimp only
      refine wpAny_storeSet_of (put_get ho) rfl ?_ (by rw [r2, hsz]; exact size9 h9)
      exact wpAny_pure (h _ _ (added_relay ho r4 r5 hmem))
  · rw [decide_eq_false hc]
    simp only [Bool.not_false, Bool.and_false, Bool.false_eq_true, if_false]
    exact wpAny_pure (h _ _ (added_end ho al nd g (fun e => by omega) hmem))
theorem setAddHashed_K {a : Addr} {so : Obj} {ks : List Ky} {x : Value} {k : Ky} {Q : Bool → Shared → Prop} (hG : ∀ a o, G a o → s.heap.get? a = some o) (hx : KyIn G x k) (ho : s.heap.get? a = some so) (hS : SetK w G so ks) (hu : A.units + 2 < cLine)
    (h : ∀ b s', Added w G s a ks k s' → Q b s') : wpAny (model prog w) A (setAddHashed a x (hashK w k)) Q E s := by
  obtain ⟨es, ep, t, rfl, hI⟩ := hS
  unfold setAddHashed
  refine wpAny_holding ?_
  unfold setAddHashedIn
  refine wpAny_bind (wpAny_setState_of ho rfl hI.fits ?_)
  dsimp only
  by_cases hb : byScan x es = true
  · rw [if_pos hb]
    refine wpAny_bind (addByScan_K hG hx ho hI hu fun b s' hadd => ?_)
    exact wpAny_pure (h b s' hadd)
  · rw [if_neg hb]
    obtain ⟨e0, he1, he2, hfs⟩ := probe_free hI.good (by rw [List.length_map, hI.al.len]; exact hI.fit) (hashK w k)
    obtain ⟨e', he', hne'⟩ := hI.good.room (by rw [List.length_map, hI.al.len]; exact hI.fit) (hashK w k)
    have hlt : e0 < 10 * SetTable.turns t.mask := by
      rcases Nat.lt_or_ge e' e0 with hc | hc
      · exact absurd (he2 e' hc) hne'
      · omega
    refine wpAny_bind ?_
    unfold setSearch
    refine searchFrom_K (adding := true) (hx.mono hG) ho rfl (hI.al.mono hG) hI.good hI.fit hu (fun hm r _ => ?_) he1 he2 (fun hm => ?_) hlt 100000 0 none rfl (Nat.zero_le _) (by have := turns_le hI.good.mask; omega) (fun m hm => by omega)
    · exact wpAny_pure (h _ _ (Added.old ho ⟨es, ep, t, rfl, hI⟩ hm))
    · dsimp only
      refine wpAny_bind (wpAny_setState_of ho rfl hI.fits ?_)
      dsimp only
      obtain ⟨ks1, m1, al, nd, g, hmem, hlen, h9⟩ := hI.put hm hx he1 he2
      have hn1 : es.size + 1 = ks1.length := by rw [hI.size, hlen]
      have h5 : ((t.put (J t.mask (hashK w k) e0)).1).mask = 7 → ks1.length ≤ 5 := fun e => by have := hI.room (m1 ▸ e); omega
      generalize (t.put (J t.mask (hashK w k) e0)).1 = t1 at *
      generalize insertAt es (t.put (J t.mask (hashK w k) e0)).2 (hashK w k, x) = es1 at *
      have tl : ∀ bv : Bool, Good (if bv = true then t1 else { t1 with plain := false }) (es1.toList.map (·.1)) ∧ (if bv = true then t1 else { t1 with plain := false }).mask = t1.mask := fun bv => by
        cases bv
        · exact ⟨g.plain false, rfl⟩
        · exact ⟨g, rfl⟩
      refine wpAny_ite_split (fun _ => ?_) (fun _ => ?_)
      · refine wpAny_bind (byValue_K (hx.mono hG) fun bv => ?_)
        exact tail2_K ho al nd (tl bv).1 hmem (by rw [(tl bv).2]; exact h5) hn1 h
      · refine wpAny_bind (wpAny_pure ?_)
        exact tail2_K ho al nd (tl true).1 hmem (by rw [(tl true).2]; exact h5) hn1 h
end
end Mine
namespace Mine
abbrev lstObj (n : Int) (t : Tok) (c : Nat) : Obj := { cls := .type "list", data := .seq #[.int n t] c }
/-- a thing: its key, or none when it is a list -/
inductive ThIn (G : Addr → Obj → Prop) : Value → Option Ky → Prop
  | key {v : Value} {k : Ky} : KyIn G v k → ThIn G v (some k)
  | lst (n : Int) (t : Tok) (c : Nat) (a : Addr) : G a (lstObj n t c) → ThIn G (.ref a) none
theorem ThIn.mono {G G' : Addr → Obj → Prop} (h : ∀ a o, G a o → G' a o) {v : Value} {th : Option Ky} (x : ThIn G v th) : ThIn G' v th := by
  cases x with
  | key y => exact .key (y.mono h)
  | lst n t c a g => exact .lst n t c a (h _ _ g)
structure ThsIn (G : Addr → Obj → Prop) (vs : List Value) (ths : List (Option Ky)) : Prop where
  len : vs.length = ths.length
  at' : ∀ (i : Nat) (v : Value), vs[i]? = some v → ∃ th, ths[i]? = some th ∧ ThIn G v th
theorem ThsIn.mono {G G' : Addr → Obj → Prop} (h : ∀ a o, G a o → G' a o) {vs : List Value} {ths : List (Option Ky)} (x : ThsIn G vs ths) : ThsIn G' vs ths :=
  ⟨x.len, fun i v hv => by obtain ⟨th, a, b⟩ := x.at' i v hv; exact ⟨th, a, b.mono h⟩⟩
theorem lookup_list_hash : typeLookup (.type "list") "__hash__" = pure (some .none) := by rw [typeLookup_type, builtinLookup_eq_fast]; kernel_rfl
theorem shown_list : shownName "list" = "list" := by first | rfl | decide +kernel
section
variable {prog : Program} {w : World} {A : Around} {E : Value → Shared → Prop} {s : Shared}
theorem pyHash_lst {n : Int} {t : Tok} {c : Nat} {a : Addr} {Q : Int → Shared → Prop} (hh : A.handled = none) (g : s.heap.get? a = some (lstObj n t c)) (hu : A.units < cLine) (h : ∀ h' tk e, Heap.NewExc s.heap h' e "TypeError" → E (.ref e) { s with heap := h', toks := tk }) : wpAny (model prog w) A (pyHash (.ref a)) Q E s := by
  have hT : s.TypeIs (.ref a) "list" := ⟨_, g, rfl⟩
  unfold pyHash pyHashByItsType
  refine wpAny_bind (wpAny_cRoomFor_or (.inr hu) ?_)
  refine wpAny_bind (wpAny_specialOf hT lookup_list_hash ?_)
  rw [if_pos (by rfl)]
  refine wpAny_bind (wpAny_rule ?_)
  refine wpAny_bind (m := typeNameOf (.ref a)) (wpAny_typeNameOf' hT (by decide) ?_)
  rw [shown_list]
  refine wpAny_bind (wpAny_raiseErrorMade plainExc_TypeError hh (fun h' tk e hn => h h' tk e hn) ?_)
  first | size_fits | (rw [sizeLine_eq]; decide) | decide
end
/-- an object of another class may turn -/
def Odd (o : Obj) : Prop := o.cls ≠ .type "tuple" ∧ o.cls ≠ .type "list"
section
variable {prog : Program} {w : World} {A : Around} {E : Value → Shared → Prop} {s : Shared} {G : Addr → Obj → Prop}
theorem setAdd_K {a : Addr} {so : Obj} {ks : List Ky} {x : Value} {th : Option Ky} {Q : Bool → Shared → Prop} (hh : A.handled = none) (hG : ∀ a o, G a o → s.heap.get? a = some o) (hx : ThIn G x th) (ho : s.heap.get? a = some so) (hS : SetK w G so ks) (hu : A.units + 2 < cLine)
    (ok : ∀ k b tk s', th = some k → Added w G { s with toks := tk } a ks k s' → Q b s') (bad : th = none → ∀ h' tk e, Heap.NewExc s.heap h' e "TypeError" → E (.ref e) { s with heap := h', toks := tk }) : wpAny (model prog w) A (setAdd a x) Q E s := by
  unfold setAdd
  refine wpAny_holding ?_
  cases hx with
  | @key _ k y =>
    refine wpAny_bind (pyHash_K (y.mono hG) hu fun tk => ?_)
    exact setAddHashed_K (s := { s with toks := tk }) hG y ho hS hu fun b s' hadd => ok k b tk s' rfl hadd
  | lst n t c l g => exact wpAny_bind (pyHash_lst hh (hG _ _ g) (by omega) fun h' tk e hn => bad rfl h' tk e hn)
theorem loop_K {S I l : Addr} {items : List Value} {ths : List (Option Ky)} {R : Result → Shared → Prop} (hh : A.handled = none) (hu : A.units + 4 < cLine) (hSI : S ≠ I) (hSl : S ≠ l) (hIl : I ≠ l) (hGn : ∀ a o, G a o → a ≠ S ∧ a ≠ I) : ∀ (k i : Nat) (s : Shared) (so : Obj) (ks : List Ky), items.length - i = k → i ≤ items.length → s.heap.IsListIter I l i → s.heap.IsList l items.toArray → (∀ a o, G a o → s.heap.get? a = some o) → ThsIn G items ths → s.heap.get? S = some so → SetK w G so ks →
    (none ∉ ths.drop i → ∀ h' tk so' ks', (∀ b o, b ≠ S → b ≠ I → s.heap.get? b = some o → h'.get? b = some o) → h'.get? S = some so' → SetK w G so' ks' → (∀ j, j ∈ ks' ↔ j ∈ ks ∨ some j ∈ ths.drop i) → R (.ok (.ret .none)) { s with heap := h', toks := tk }) →
    (none ∈ ths.drop i → ∀ h₁ h' tk e, (∀ b o, b ≠ S → b ≠ I → s.heap.get? b = some o → h₁.get? b = some o) → Heap.NewExc h₁ h' e "TypeError" → R (.error (.ref e)) { s with heap := h', toks := tk }) →
    codeAny (model prog w) A (.builtin "set.update.loop" ⟨[.ref S, .ref I], []⟩) R s := by
  intro k
  induction k with
  | zero =>
    intro i s so ks hk hi hit hl hG hths ho hS done _
    have hin : i = items.length := by omega
    subst hin
    refine codeAny_builtin PyProof.Rows.F.entry_set_update_loop ?_
    rw [Around.under_plainId PyProof.Rows.F.plain_set_update_loop _]
    show wpAny _ A.in1 (pyNext (.ref I) >>= _) _ _ s
    refine wpAny_bind (wpAny_pyNext_list_end (by show A.handled = none; exact hh) hit hl (by simp) fun h' hx => ?_)
    show wpAny _ A.in1 (ret Value.none) _ _ _
    have hd : ths.drop items.length = [] := List.drop_eq_nil_of_le (by rw [hths.len]; exact Nat.le_refl _)
    obtain ⟨oI, hoI, hcI, _⟩ := id hit
    have kb : ∀ b o, b ≠ I → s.heap.get? b = some o → h'.get? b = some o := fun b o hb e => hx b o hb e
    refine wpAny_pure (done (by rw [hd]; exact nofun) h' s.toks so ks (fun b o _ h2 e => kb b o h2 e) (kb S so hSI ho) hS fun j => by rw [hd]; simp)
  | succ k ih =>
    intro i s so ks hk hi hit hl hG hths ho hS done bad
    have hlt : i < items.length := by omega
    refine codeAny_builtin PyProof.Rows.F.entry_set_update_loop ?_
    rw [Around.under_plainId PyProof.Rows.F.plain_set_update_loop _]
    show wpAny _ A.in1 (pyNext (.ref I) >>= _) _ _ s
    have hx0 : items[i]? = some items[i] := List.getElem?_eq_getElem hlt
    obtain ⟨th, hth, hin⟩ := hths.at' i _ hx0
    have hdrop : ths.drop i = th :: ths.drop (i + 1) := by
      obtain ⟨h1, h2⟩ := List.getElem?_eq_some_iff.mp hth
      rw [List.drop_eq_getElem_cons h1, h2]
    refine wpAny_bind (wpAny_pyNext_list_item hit hl (x := items[i]) (by simp) fun h2 hit2 hsb => ?_)
    obtain ⟨oI, hoI, hcI, _⟩ := id hit
    have oddI : Odd oI := ⟨by rw [hcI]; exact nofun, by rw [hcI]; exact nofun⟩
    have kb : ∀ b o, b ≠ I → s.heap.get? b = some o → h2.get? b = some o := fun b o hb e => hsb.extBut b o hb e
    have hG2 : ∀ a o, G a o → h2.get? a = some o := fun a o g => kb a o (hGn a o g).2 (hG a o g)
    have ho2 := kb S so hSI ho
    have hl2 : h2.IsList l items.toArray := by obtain ⟨o, e, r⟩ := id hl; exact ⟨o, kb _ _ (Ne.symm hIl) e, r⟩
    show wpAny _ A.in1 (holding [items[i]] (setAdd S items[i]) >>= _) _ _ _
    refine wpAny_bind (wpAny_holding ?_)
    refine setAdd_K (s := { s with heap := h2 }) (by show A.handled = none; exact hh) hG2 hin ho2 hS (by show A.units + 1 + 2 < cLine; omega) (fun y b tk s' ey hadd => ?_) (fun en h' tk e hn => ?_)
    · obtain ⟨h3, so3, ks3, rfl, sb3, ho3, hS3, hmem3⟩ := hadd
      subst ey
      have k3 : ∀ b o, b ≠ S → h2.get? b = some o → h3.get? b = some o := fun b o hb e => (sb3.2 b hb).trans e
      have hit3 : h3.IsListIter I l (i + 1) := by obtain ⟨o, e, r⟩ := id hit2; exact ⟨o, k3 _ _ (Ne.symm hSI) e, r⟩
      have hl3 : h3.IsList l items.toArray := by obtain ⟨o, e, r⟩ := id hl2; exact ⟨o, k3 _ _ (Ne.symm hSl) e, r⟩
      refine wpAny_pure ⟨plainId_quiet PyProof.Rows.F.plain_set_update_loop _, ih (i + 1) _ so3 ks3 (by omega) hlt hit3 hl3 (fun a o g => k3 a o (hGn a o g).1 (hG2 a o g)) hths ho3 hS3 (fun hn h' tk' so' ks' kk e1 e2 e3 => ?_) (fun hn h₁ h' tk' e kk hx => ?_)⟩
      · refine done (by rw [hdrop]; exact fun hm => by rcases List.mem_cons.mp hm with e | hm; cases e; exact hn hm) h' tk' so' ks' (fun b o h1 h2' e => kk b o h1 h2' (k3 b o h1 (kb b o h2' e))) e1 e2 fun j => ?_
        rw [e3 j, hmem3 j, hdrop, List.mem_cons]
        constructor
        · rintro ((h | h) | h)
          · exact .inl h
          · exact .inr (.inl (by rw [h]))
          · exact .inr (.inr h)
        · rintro (h | h | h)
          · exact .inl (.inl h)
          · exact .inl (.inr (Option.some.inj h))
          · exact .inr h
      · exact bad (by rw [hdrop]; exact .tail _ hn) h₁ h' tk' e (fun b o h1 h2' e => kk b o h1 h2' (k3 b o h1 (kb b o h2' e))) hx
    · subst en
      exact bad (by rw [hdrop]; exact .head _) h2 h' tk e (fun b o _ h2' e => kb b o h2' e) hn
end
end Mine
namespace Mine
theorem setK_new (w : World) (G : Addr → Obj → Prop) (led : Bool) : SetK w G { cls := .type "set", dict := none, data := .set #[] 0 (.fresh 0 0 led) } [] :=
  ⟨#[], 0, .fresh 0 0 led, rfl, ⟨rfl, fun i k h => by simp at h⟩, List.nodup_nil, ⟨rfl, List.Pairwise.nil, .inl rfl, rfl, fun j h => by simp [SetTable.fresh] at h, fun i j h h1 => by simp [SetTable.fresh] at h1⟩, fun _ => Nat.zero_le _⟩
section
variable {prog : Program} {w : World} {A : Around} {E : Value → Shared → Prop} {s : Shared} {G : Addr → Obj → Prop}
theorem set_things {l : Addr} {items : List Value} {nl : Nat} {ths : List (Option Ky)} {Q : Value → Shared → Prop} (hh : A.handled = none) (hol : s.heap.get? l = some (listOf (List.toArray items) nl)) (hG : ∀ a o, G a o → s.heap.get? a = some o) (hths : ThsIn G items ths) (hu : A.units + 10 < cLine)
    (ok : none ∉ ths → ∀ h' tk so' ks', (∀ b o, s.heap.get? b = some o → h'.get? b = some o) → h'.get? s.heap.objs.size = some so' → SetK w G so' ks' → (∀ j, j ∈ ks' ↔ some j ∈ ths) → Q (.ref s.heap.objs.size) { s with heap := h', toks := tk })
    (bad : none ∈ ths → ∀ h₁ h' tk e, (∀ b o, s.heap.get? b = some o → h₁.get? b = some o) → Heap.NewExc h₁ h' e "TypeError" → E (.ref e) { s with heap := h', toks := tk }) :
    wpAny (model prog w) A (call (.type "set") [.ref l]) Q E s := by
  obtain ⟨c, tl, hmro⟩ := PySem.F.called_set.mro
  have hmade := PySem.F.called_set.made
  have hsub := PySem.F.called_set.sub
  refine wpAny_call (codeAny_of_tree ?_)
  show wpAny _ _ (callAny (.type "set") _) _ _ _
  refine wpAny_pure ⟨Code.quiet_builtin _ (by decide +kernel), codeAny_builtin PySem.F.entry_type_call ?_⟩
  rw [Around.under_plain (weight_type_call_type "set" [.ref l] []) rfl]
  have h1 := PySem.F.called_set.notType
  have h2 := PySem.F.called_set.canCreate
  have hct := PySem.F.typeCall_set_1 (.ref l)
  repeat (any_goals (first | assumption | wp_step))
  refine codeAny_mono (code_set_new_1 (.ref l) (E := E) (Q₁ := fun obj s₁ => ∃ led : Bool, obj = .ref s.heap.objs.size ∧ s₁ = { s with heap := s.heap.push { cls := .type "set", dict := none, data := .set #[] 0 (.fresh 0 0 led) } }) fun led => ⟨led, rfl, rfl⟩) fun r s₁ hr => ?_
  cases r with
  | error e => exact hr
  | ok fl =>
    cases fl with
    | ret obj =>
      obtain ⟨led, rfl, rfl⟩ := hr
      have hS : (s.heap.push { cls := .type "set", dict := none, data := .set #[] 0 (.fresh 0 0 led) }).get? s.heap.objs.size = some { cls := .type "set", dict := none, data := .set #[] 0 (.fresh 0 0 led) } := Heap.get?_push_size _ rfl
      have hT : Shared.TypeIs { s with heap := s.heap.push { cls := .type "set", dict := none, data := .set #[] 0 (.fresh 0 0 led) } } (.ref s.heap.objs.size) "set" := ⟨_, hS, rfl⟩
      have hli := PySem.F.called_set.init.lookup
      have hbi := PySem.F.called_set.init.bind (.ref s.heap.objs.size)
      repeat (any_goals (first | assumption | wp_step))
      refine codeAny_mono (codeAny_call_builtin (R := fun r s₂ => match r with
          | .ok f => f = .ret .none ∧ none ∉ ths ∧ ∃ h' tk so' ks', s₂ = { s with heap := h', toks := tk } ∧ (∀ b o, s.heap.get? b = some o → h'.get? b = some o) ∧ h'.get? s.heap.objs.size = some so' ∧ SetK w G so' ks' ∧ (∀ j, j ∈ ks' ↔ some j ∈ ths)
          | .error e => E e s₂) PySem.F.called_set.init.plain PySem.F.entry_set_init (check_set_init_1 hT ?_)) fun r₂ s₂ hr₂ => ?_
      · have hol' : (s.heap.push { cls := .type "set", dict := none, data := .set #[] 0 (.fresh 0 0 led) }).get? l = some { cls := .type "list", dict := none, data := .seq items.toArray nl, slots := #[] } := Heap.get?_push_of_some _ hol
        have hsls := PySem.F.sub_list_set
        have hslf := PySem.F.sub_list_frozenset
        have hne : (Value.type "list" == Value.type "dict") = false := by decide
        have hl1 : (s.heap.push { cls := .type "set", dict := none, data := .set #[] 0 (.fresh 0 0 led) }).IsList l items.toArray := ⟨_, hol', rfl, nl, rfl⟩
        unfold Builtin.«set.__init__» noKeywords Builtin.Frozenset.updateFrom
        generalize hPI : pyIter = PI
        wp_walk
        subst hPI
        refine wpAny_pyIter_list hl1 ?_
        refine wpAny_bind (wpAny_runValue ?_)
        have hlS : @LT.lt Nat _ l s.heap.objs.size := Heap.lt_size hol
        have hp1 : @Eq Nat (s.heap.push { cls := .type "set", dict := none, data := .set #[] 0 (.fresh 0 0 led) }).objs.size (s.heap.objs.size + 1) := Heap.size_push ..
        generalize hH1 : s.heap.push { cls := .type "set", dict := none, data := .set #[] 0 (.fresh 0 0 led) } = H1 at *
        have k1 : ∀ b o, s.heap.get? b = some o → H1.get? b = some o := fun b o e => hH1 ▸ Heap.get?_push_of_some _ e
        have k2 : ∀ b o, H1.get? b = some o → (H1.push { cls := .type "list_iterator", data := .fields #[.ref l, .int 0 0] }).get? b = some o := fun b o e => Heap.get?_push_of_some _ e
        have lt1 : ∀ {b : Addr} {o : Obj}, s.heap.get? b = some o → b ≠ s.heap.objs.size ∧ b ≠ H1.objs.size := by
          intro b o e
          have h1 : @LT.lt Nat _ b s.heap.objs.size := Heap.lt_size e
          refine ⟨fun q => ?_, fun q => ?_⟩
          · have q' : @Eq Nat b s.heap.objs.size := q
            omega
          · have q' : @Eq Nat b H1.objs.size := q
            omega
        have hSI : s.heap.objs.size ≠ H1.objs.size := by
          intro q
          have q' : @Eq Nat s.heap.objs.size H1.objs.size := q
          omega
        refine loop_K (ths := ths) (items := items) (by simp [hh]) (by simp only [Around.in1_units]; omega) hSI (Ne.symm (lt1 hol).1) (Ne.symm (lt1 hol).2) (fun a o g => lt1 (hG a o g)) (items.length - 0) 0 _ _ [] rfl (Nat.zero_le _) ⟨_, Heap.get?_push_size _ rfl, rfl, rfl⟩ (hl1.push _) (fun a o g => k2 _ _ (k1 _ _ (hG a o g))) hths (k2 _ _ hS) (setK_new w _ led) (fun hn h' tk so' ks' kk ho' hS' hm' => ?_) (fun hb h₁ h' tk e kk hx => ?_)
        · show wpAny _ _ _ _ _ _
          refine wpAny_pure ?_
          show wpAny _ _ (ret Value.none) _ _ _
          refine wpAny_pure ⟨rfl, hn, h', tk, so', ks', rfl, fun b o e => kk b o (lt1 e).1 (lt1 e).2 (k2 _ _ (k1 _ _ e)), ho', hS', fun j => ?_⟩
          rw [hm' j]
          simp
        · exact bad hb h₁ h' tk e (fun b o e => kk b o (lt1 e).1 (lt1 e).2 (k2 _ _ (k1 _ _ e))) hx
      · cases r₂ with
        | error e => exact hr₂
        | ok fl₂ =>
          obtain ⟨rfl, hno, h', tk, so', ks', rfl, hk', ho', hS', hm'⟩ := hr₂
          repeat (any_goals (first | assumption | wp_step))
          exact ok hno h' tk so' ks' hk' ho' hS' hm'
    | _ => exact hr.elim
end
end Mine
namespace Mine
abbrev LC1 (elt : PySem.Expr) (tgt iter : PySem.Expr) (scope : Scope) (pos : Pos) : PySem.Expr := .ListComp elt [⟨tgt, iter, [], 0⟩] scope pos
section
variable {elt tgt iter : PySem.Expr} {scope : Scope} {pos : Pos}
theorem turn1 (it acc : Value) (env : Env) : compTurn (LC1 elt tgt iter scope pos) 0 it acc env = (do
      standAt iter.pos
      match ← pyNext it with
      | none => pure (.done .next)
      | some v =>
        letOwnedTupleGo tgt it v
        assign tgt env v
        let mut ok := true
        for c in ([] : List PySem.Expr) do
          if ok then ok ← isTrue c env (eval c env)
        if ok then
          (do let _ ← call (.builtin "list.append") [acc, ← eval elt env])
        again (.compLoop (LC1 elt tgt iter scope pos) 0 it acc env)) := by rfl
section
variable {prog : Program} {w : World} {A : Around} {E : Value → Shared → Prop} {R : Result → Shared → Prop} {s : Shared}
theorem loop1 {it acc : Value} {env : Env} (I : Nat → Shared → Prop)
    (turn : ∀ n s, I n s → wpAny (model prog w) A (pyNext it) (fun r s₁ => match r with
      | none => R (.ok .next) s₁
      | some v => wpAny (model prog w) A (letOwnedTupleGo tgt it v) (fun _ s₁ => wpAny (model prog w) A (assign tgt env v) (fun _ s₂ => wpAny (model prog w) A (eval elt env) (fun x s₃ =>
          wpAny (model prog w) A (call (.builtin "list.append") [acc, x]) (fun _ s₄ => ∃ m, m < n ∧ I m s₄) (notedBy (model prog w) A env fun e s' => R (.error e) s') s₃)
          (notedBy (model prog w) A env fun e s' => R (.error e) s') s₂) (notedBy (model prog w) A env fun e s' => R (.error e) s') s₁) (notedBy (model prog w) A env fun e s' => R (.error e) s') s₁) (notedBy (model prog w) A env fun e s' => R (.error e) s') s)
    (n : Nat) (h : I n s) : codeAny (model prog w) A (.compLoop (LC1 elt tgt iter scope pos) 0 it acc env) R s := by
  refine codeAny_loop rfl I (fun n s hI => ?_) n h
  show wpAny _ A ((compTurn (LC1 elt tgt iter scope pos) 0 it acc env).onRaise (fun x => do noteFrame x env; theTreesLotGoes x)) _ _ s
  refine wpAny_noted ?_
  rw [turn1]
  refine wpAny_bind (wpAny_standAt (wpAny_bind (wpAny_mono (turn n s hI) (fun r s₁ h₁ => ?_) fun _ _ h' => h')))
  cases r with
  | none => exact wpAny_pure h₁
  | some v =>
    refine wpAny_bind (wpAny_mono h₁ (fun _ s₁' h₁' => ?_) fun _ _ h' => h')
    refine wpAny_bind (wpAny_mono h₁' (fun _ s₂ h₂ => wpAny_bind ?_) fun _ _ h' => h')
    refine wpAny_mono (wpAny_tests_nil (Q := fun ok s' => ok = true ∧ s' = s₂) ⟨rfl, rfl⟩) (fun ok s' hk => ?_) fun _ _ h' => h'
    obtain ⟨rfl, rfl⟩ := hk
    exact wpAny_bind (wpAny_bind (wpAny_mono h₂ (fun x s₄ h₄ => wpAny_bind (wpAny_mono h₄ (fun _ s₅ h₅ => wpAny_pure (wpAny_pure ⟨rfl, h₅⟩)) fun _ _ h' => h')) fun _ _ h' => h'))
end
end
section
variable {prog : Program} {w : World} {A : Around} {E : Value → Shared → Prop} {s : Shared} {h₀ : Heap} {L : Addr} {m : Str → Option Value} {news : List (Addr × Obj)}
/-- new objects of a heap -/
abbrev NewAt (h₀ h : Heap) : Addr → Obj → Prop := fun b o => h.get? b = some o ∧ h₀.get? b = none
def CompFinT (prog : Program) (w : World) (A : Around) (E : Value → Shared → Prop) (_L : Addr) (use : Option (Value → Sem Unit)) (Q : Value → Shared → Prop) (s₁ : Shared) (P : Heap → List Value → Prop) : Prop :=
  ∀ D C ys n h' tk m'', s₁.heap.get? D = none → s₁.heap.get? C = none → D ≠ C → h'.Ns C m'' → h'.get? D = some (listOf (List.toArray ys) n) → (∀ b o, s₁.heap.get? b = some o → h'.get? b = some o) → P h' ys →
    compPost (model prog w) A E use Q (.ref D) C (.ok .next) { s₁ with heap := h', toks := tk }
/-- [elt for x in l], l of ints, elt a thing: the walk stands at the source -/
def CompAtT (use : Option (Value → Sem Unit)) (E : Value → Shared → Prop) (prog : Program) (w : World) (A : Around) (h₀ : Heap) (L : Addr) (env : Env) (scope : Scope) (cl : List (Str × Addr)) (x : Str) (elt : PySem.Expr) (Q : Value → Shared → Prop) (xv : Value) (s₁ : Shared) : Prop :=
  ∃ (ax : Addr) (vs : List Value) (ns : List Int) (m : Str → Option Value) (news : List (Addr × Obj)) (f : Int → Option Ky), xv = .ref ax ∧ Fr h₀ L s₁.heap m ∧ News h₀ L s₁.heap news ∧ s₁.heap.IsList ax vs.toArray ∧ IntsAre vs ns ∧ vs.length ≤ 1000 ∧ A.handled = none ∧
    (∀ C D oD a t h tk m₃ E' g d o, a ∈ ns → Fr h₀ C h m₃ → Fr h₀ L h m → News h₀ L h ((D, oD) :: news) → m₃ x = some (.int a t) → wpAny (model prog w) A (eval elt (compEnvC scope cl C env)) (fun y s₄ => ThIn (fun b o => NewAt h₀ s₄.heap b o ∧ b ≠ D) y (f a) ∧ Keeps { heap := h, toks := tk, gens := g, drawn := d, os := o } s₄) E' { heap := h, toks := tk, gens := g, drawn := d, os := o }) ∧
    CompFinT prog w A E L use Q s₁ (fun h' ys => ThsIn (NewAt h₀ h') ys (ns.map f))
theorem ns_odd {h : Heap} {C : Addr} {m : Str → Option Value} (hn : h.Ns C m) {n : Fin 3} {t : Tok} : h.get? C ≠ some (tupObj n t) := by
  obtain ⟨o, es, ep, ho, hd, _⟩ := hn
  rw [ho]
  rintro e
  cases e
  cases hd
theorem ns_odd2 {h : Heap} {C : Addr} {m : Str → Option Value} (hn : h.Ns C m) {n : Int} {t : Tok} {c : Nat} : h.get? C ≠ some (lstObj n t c) := by
  obtain ⟨o, es, ep, ho, hd, _⟩ := hn
  rw [ho]
  rintro e
  cases e
  cases hd
/-- things stand where they stood, when what turns is not theirs -/
theorem ThIn.move {G G' : Addr → Obj → Prop} {v : Value} {th : Option Ky} (x : ThIn G v th) (h1 : ∀ b n t, G b (tupObj n t) → G' b (tupObj n t)) (h2 : ∀ b n t c, G b (lstObj n t c) → G' b (lstObj n t c)) : ThIn G' v th := by
  cases x with
  | key y =>
    cases y with
    | int n t ht => exact .key (.int n t ht)
    | boo b n e => exact .key (.boo b n e)
    | str n t ht => exact .key (.str n t ht)
    | tup n t a g => exact .key (.tup n t a (h1 _ _ _ g))
  | lst n t c a g => exact .lst n t c a (h2 _ _ _ _ g)
theorem ThsIn.move {G G' : Addr → Obj → Prop} {vs : List Value} {ths : List (Option Ky)} (x : ThsIn G vs ths) (h1 : ∀ b n t, G b (tupObj n t) → G' b (tupObj n t)) (h2 : ∀ b n t c, G b (lstObj n t c) → G' b (lstObj n t c)) : ThsIn G' vs ths :=
  ⟨x.len, fun i v hv => by obtain ⟨th, a, b⟩ := x.at' i v hv; exact ⟨th, a, b.move h1 h2⟩⟩
theorem ThsIn.snoc {G : Addr → Obj → Prop} {vs : List Value} {ths : List (Option Ky)} (x : ThsIn G vs ths) {v : Value} {th : Option Ky} (y : ThIn G v th) : ThsIn G (vs ++ [v]) (ths ++ [th]) := by
  refine ⟨by simp [x.len], fun i u hu => ?_⟩
  by_cases hc : i < vs.length
  · rw [List.getElem?_append_left hc] at hu
    obtain ⟨th', a, b⟩ := x.at' i u hu
    exact ⟨th', by rw [List.getElem?_append_left (by rw [← x.len]; exact hc)]; exact a, b⟩
  · rw [List.getElem?_append_right (by omega)] at hu
    have h0 : i - vs.length = 0 := by
      have := (List.getElem?_eq_some_iff.mp hu).1
      simp at this; omega
    rw [h0] at hu
    simp at hu
    subst hu
    exact ⟨th, by rw [List.getElem?_append_right (by rw [← x.len]; omega), ← x.len, h0]; rfl, y⟩
theorem ThsIn.nil (G : Addr → Obj → Prop) : ThsIn G [] [] := ⟨rfl, fun i v h => by simp at h⟩
theorem CompT_N {env : Env} {elt iter : PySem.Expr} {x : Str} {px : Pos} {scope : Scope} {cl : List (Str × Addr)} {pos pos2 : Pos} {Q : Value → Shared → Prop} (_F : Fr h₀ L s.heap m)
    (hclos : closureFor scope env = pure cl) (hcell : ∀ y ∈ scope.names, y.2 ≠ .cell) (hkind : scope.kind = .function)
    (hnames : ∀ y ∈ scope.names, y.2 = .local → scope.names.lookup y.1 = some .local) (hx : scope.names.lookup x = some .local)
    (use : Option (Value → Sem Unit)) (h : wpAny (model prog w) A (eval iter env) (CompAtT use E prog w A h₀ L env scope cl x elt Q) E s)
    (hs : ∀ x, foldedSetIterable iter env x = pure x := by intro _; rfl) :
    wpAny (model prog w) A (comprehension (LC1 elt (.Name x px) iter scope pos) scope env pos2 (newList []) false (eval iter env) use) Q E s := by
  refine wpAny_comprehension_free (use := use) rfl hs hclos hkind hnames (wpAny_mono h (fun xv s₁ h₁ => ?_) fun _ _ e => e)
  obtain ⟨ax, vs, ns, m', news', f, rfl, HF, HN, hl, hi, hz, hh, helt, hfin⟩ := h₁
  have hax : ax < s₁.heap.objs.size := by obtain ⟨_, e, _⟩ := id hl; exact Heap.lt_size e
  refine wpAny_pyIter_list hl ?_
  refine wpAny_newObj_type (wpAny_newFunctionEnv hcell (by intro y hy; simp at hy) (fun h₁ hns₁ hsb₁ => ?_) hkind)
  dsimp only at hns₁ hsb₁ ⊢
  generalize hH1 : s₁.heap.push { cls := .type "list_iterator", data := .fields #[.ref ax, .int 0 0] } = H1 at hns₁ hsb₁ ⊢
  have hI1 : H1.objs.size = s₁.heap.objs.size + 1 := by rw [← hH1, Heap.size_push]
  generalize hH2 : H1.push { cls := .type "list", dict := none, data := .seq ([] : List Value).toArray } = H2 at hns₁ hsb₁ ⊢
  have hC : H2.objs.size = H1.objs.size + 1 := by rw [← hH2, Heap.size_push]
  have hDC : H1.objs.size ≠ H2.objs.size := by rw [hC]; exact Nat.ne_of_lt (Nat.lt_succ_self _)
  have up1 : ∀ b o, s₁.heap.get? b = some o → H2.get? b = some o := fun b o e => hH2 ▸ Heap.get?_push_of_some _ (hH1 ▸ Heap.get?_push_of_some _ e)
  have lt1 : ∀ {b : Addr} {o : Obj}, s₁.heap.get? b = some o → b ≠ H2.objs.size ∧ b ≠ H1.objs.size ∧ b ≠ s₁.heap.objs.size := by
    intro b o e
    have h1 : @LT.lt Nat _ b s₁.heap.objs.size := Heap.lt_size e
    refine ⟨fun q => ?_, fun q => ?_, fun q => ?_⟩
    · have q' : @Eq Nat b H2.objs.size := q
      omega
    · have q' : @Eq Nat b H1.objs.size := q
      omega
    · have q' : @Eq Nat b s₁.heap.objs.size := q
      omega
  have hCI : H2.objs.size ≠ s₁.heap.objs.size := by omega
  have hDI : H1.objs.size ≠ s₁.heap.objs.size := by omega
  have hit₀ : H1.IsListIter s₁.heap.objs.size ax 0 := hH1 ▸ ⟨_, Heap.get?_push_size _ rfl, rfl, rfl⟩
  have hit₁ : h₁.IsListIter s₁.heap.objs.size ax 0 := hit₀.at fun o e => hsb₁.extBut _ _ (Ne.symm hCI) (Heap.get?_push_of_some _ (hH2 ▸ Heap.get?_push_of_some _ e))
  have hacc : h₁.PlainList H1.objs.size #[] := ⟨_, hsb₁.extBut _ _ hDC (Heap.get?_push_of_some _ (hH2 ▸ Heap.get?_push_size _ rfl))⟩
  have keep₁ : ∀ b o, s₁.heap.get? b = some o → h₁.get? b = some o := fun b o e => hsb₁.extBut b o (lt1 e).1 (Heap.get?_push_of_some _ (up1 b o e))
  have fresh : ∀ a, s₁.heap.objs.size ≤ a → s₁.heap.get? a = none := fun a ha => by
    cases e : s₁.heap.get? a with
    | none => rfl
    | some o => exact absurd (Heap.lt_size e) (Nat.not_lt.mpr ha)
  have base0 : ∀ a, s₁.heap.objs.size ≤ a → h₀.get? a = none := fun a ha => by
    cases e : h₀.get? a with
    | none => rfl
    | some o => have := HF.keep a o e; rw [fresh a ha] at this; cases this
  have inner : ∀ {h' : Heap} {m₃ : Str → Option Value} {ys : Array Value}, h'.Ns H2.objs.size m₃ → h'.PlainList H1.objs.size ys → (∀ b o, s₁.heap.get? b = some o → h'.get? b = some o) → ∃ c, Fr h₀ H2.objs.size h' m₃ ∧ Fr h₀ L h' m' ∧ News h₀ L h' ((H1.objs.size, listOf ys c) :: news') := by
    intro h' m₃ ys hn hD hk
    obtain ⟨c, hD⟩ := hD
    refine ⟨c, ⟨hn, fun b o e => hk b o (HF.keep b o e), ?_⟩, HF.keeps hk, fun q hq => ?_⟩
    · have h1 : @LE.le Nat _ h₀.objs.size L := HF.above
      have h2 : @LT.lt Nat _ L s₁.heap.objs.size := HF.ns.lt
      exact (by omega : @LE.le Nat _ h₀.objs.size H2.objs.size)
    · rcases List.mem_cons.mp hq with rfl | hq
      · refine ⟨hD, fun e => ?_, base0 _ (by omega)⟩
        have h2 : @LT.lt Nat _ L s₁.heap.objs.size := HF.ns.lt
        have e' : @Eq Nat H1.objs.size L := e
        omega
      · exact ⟨hk _ _ (HN q hq).1, (HN q hq).2⟩
  have hkx : (compEnvC scope cl H2.objs.size env).kindOf x = some .local := lookup_relabel_local hx
  have hpc : ((compEnvC scope cl H2.objs.size env).scope.kind == .class || ((compEnvC scope cl H2.objs.size env).scope.kind == .module && (compEnvC scope cl H2.objs.size env).locals != (compEnvC scope cl H2.objs.size env).globals)) = false := by simp [compEnvC, relabel, hkind]
  have hlen := IntsAre.length hi
  have loop : ∀ tk₀, codeAny (model prog w) A (.compLoop (LC1 elt (.Name x px) iter scope pos) 0 (.ref s₁.heap.objs.size) (.ref H1.objs.size) (compEnvC scope cl H2.objs.size env)) (compPost (model prog w) A E use Q (.ref H1.objs.size) H2.objs.size)
      { s₁ with heap := h₁, toks := tk₀ } := by
    intro tk₀
    refine loop1 (fun k s' => ∃ h' tk m₂ ys i, s' = { s₁ with heap := h', toks := tk } ∧ h'.IsListIter s₁.heap.objs.size ax i ∧ h'.Ns H2.objs.size m₂ ∧ h'.PlainList H1.objs.size ys ∧ ThsIn (fun b o => NewAt h₀ h' b o ∧ b ≠ H1.objs.size) ys.toList ((ns.take i).map f) ∧ i ≤ ns.length ∧ k = ns.length + 1 - i ∧
      (∀ b o, s₁.heap.get? b = some o → h'.get? b = some o)) ?_ (ns.length + 1) ⟨h₁, tk₀, _, #[], 0, rfl, hit₁, hns₁, hacc, ThsIn.nil _, Nat.zero_le _, rfl, keep₁⟩
    rintro k s' ⟨h', tk, m₂, ys, i, rfl, hit, hn, hD, hys, hin, rfl, hk⟩
    have hl' : h'.IsList ax vs.toArray := by obtain ⟨o, e, r⟩ := id hl; exact ⟨o, hk _ _ e, r⟩
    obtain ⟨oI, hoI, hcI, _⟩ := id hit
    have nI : ∀ b n t, h'.get? b = some (tupObj n t) → b ≠ s₁.heap.objs.size := by
      rintro b n t e rfl
      rw [hoI] at e; cases e; simp at hcI
    have nI2 : ∀ b n t c, h'.get? b = some (lstObj n t c) → b ≠ s₁.heap.objs.size := by
      rintro b n t c e rfl
      rw [hoI] at e; cases e; simp at hcI
    have nC : ∀ {h'' : Heap} {m : Str → Option Value}, h''.Ns H2.objs.size m → ∀ b n t, h''.get? b = some (tupObj n t) → b ≠ H2.objs.size := by
      rintro h'' m hn b n t e rfl
      exact ns_odd hn e
    have nC2 : ∀ {h'' : Heap} {m : Str → Option Value}, h''.Ns H2.objs.size m → ∀ b n t c, h''.get? b = some (lstObj n t c) → b ≠ H2.objs.size := by
      rintro h'' m hn b n t c e rfl
      exact ns_odd2 hn e
    by_cases hlt : i < ns.length
    · have hlt' : i < vs.length := by rw [hlen]; exact hlt
      have hx0 : vs[i]? = some vs[i] := List.getElem?_eq_getElem hlt'
      obtain ⟨a, t, ea, hai⟩ := ints_at hi i _ hx0
      have hxa : vs.toArray[i]? = some (.int a t) := by rw [← ea, ← hx0]; simp
      have ham : a ∈ ns := List.mem_of_getElem? hai
      refine wpAny_pyNext_list_item hit hl' hxa fun h₂ hit₂ hs₂ => ?_
      have hn₂ : h₂.Ns H2.objs.size m₂ := hn.at' fun o e => hs₂.extBut _ o hCI e
      refine wpAny_of_eq (a := ()) rfl ?_
      refine wpAny_assign_Name (wpAny_storeName_local hkx hn₂ (fun h₃ hn₃ hs₃ => ?_) hpc)
      have keep₃ : ∀ b o, s₁.heap.get? b = some o → h₃.get? b = some o := fun b o e => hs₃.extBut _ o (lt1 e).1 (hs₂.extBut _ o (lt1 e).2.2 (hk b o e))
      have hD₃ : h₃.PlainList H1.objs.size ys := (hD.at fun o e => hs₂.extBut _ o hDI e).at fun o e => hs₃.extBut _ o hDC e
      obtain ⟨c, F₃, FL₃, N₃⟩ := inner hn₃ hD₃ keep₃
      refine wpAny_mono (helt _ _ _ a t h₃ _ _ _ _ _ _ ham F₃ FL₃ N₃ (by simp)) (fun y s₄ h₄ => ?_) fun _ _ e => e
      obtain ⟨hy, h₄, tk₄, rfl, hk₄⟩ := h₄
      have hn₄ := hn₃.keeps hk₄
      have keep₄ : ∀ b o, s₁.heap.get? b = some o → h₄.get? b = some o := fun b o e => hk₄ _ _ (keep₃ b o e)
      have hit₄ : h₄.IsListIter s₁.heap.objs.size ax (i + 1) := (hit₂.at fun o e => hs₃.extBut _ o (Ne.symm hCI) e).at fun o e => hk₄ _ o e
      have hD₄ : h₄.PlainList H1.objs.size ys := hD₃.at fun o e => hk₄ _ o e
      have hys₄ : ThsIn (fun b o => NewAt h₀ h₄ b o ∧ b ≠ H1.objs.size) ys.toList ((ns.take i).map f) := by
        refine hys.move (fun b n t g => ⟨⟨hk₄ _ _ (hs₃.extBut _ _ (nC hn₂ b n t (hs₂.extBut _ _ (nI b n t g.1.1) g.1.1)) (hs₂.extBut _ _ (nI b n t g.1.1) g.1.1)), g.1.2⟩, g.2⟩) (fun b n t c g => ⟨⟨hk₄ _ _ (hs₃.extBut _ _ (nC2 hn₂ b n t c (hs₂.extBut _ _ (nI2 b n t c g.1.1) g.1.1)) (hs₂.extBut _ _ (nI2 b n t c g.1.1) g.1.1)), g.1.2⟩, g.2⟩)
      have hyl : ys.toList.length = i := by rw [hys.len, List.length_map, List.length_take]; omega
      have hysz : ys.size = i := by rw [← hyl]; simp
      refine wpAny_list_append_plain hD₄ (fun h₅ hD₅ hs₅ => ?_) (by rw [sizeLine_eq, hysz]; omega)
      refine ⟨ns.length + 1 - (i + 1), by omega, h₅, tk₄, _, _, i + 1, rfl, hit₄.at fun o e => hs₅.extBut _ o (Ne.symm hDI) e, hn₄.at' fun o e => hs₅.extBut _ o (Ne.symm hDC) e, hD₅, ?_, hlt, rfl, fun b o e => hs₅.extBut _ _ (lt1 e).2.1 (keep₄ b o e)⟩
      have step : (ns.take (i + 1)).map f = (ns.take i).map f ++ [f a] := by
        rw [List.take_add_one, hai, Option.toList_some, List.map_append]; rfl
      rw [step, Array.toList_push]
      refine ThsIn.move (ThsIn.snoc hys₄ hy) (fun b n t g => ⟨⟨hs₅.extBut _ _ g.2 g.1.1, g.1.2⟩, g.2⟩) (fun b n t c g => ⟨⟨hs₅.extBut _ _ g.2 g.1.1, g.1.2⟩, g.2⟩)
    · have hie : i = ns.length := by omega
      subst hie
      refine wpAny_pyNext_list_end hh hit hl' (by simp; omega) fun h₂ he₂ => ?_
      obtain ⟨n, hD'⟩ := hD.at fun o e => he₂ _ o hDI e
      refine hfin H1.objs.size H2.objs.size ys.toList n h₂ tk m₂ (fresh _ (by omega)) (fresh _ (by omega)) hDC (hn.at' fun o e => he₂ _ o hCI e) (by simpa using hD') (fun b o e => he₂ _ o (lt1 e).2.2 (hk b o e)) ?_
      rw [List.take_of_length_le (Nat.le_refl _)] at hys
      exact hys.move (fun b n t g => ⟨he₂ _ _ (nI b n t g.1.1) g.1.1, g.1.2⟩) (fun b n t c g => ⟨he₂ _ _ (nI2 b n t c g.1.1) g.1.1, g.1.2⟩)
  exact codeAny_compStart_list (loop _) (wpAny_pyIter_listiter hit₁ (loop _))
end
end Mine
namespace Mine
section
variable {prog : Program} {w : World} {A : Around} {E : Value → Shared → Prop} {s : Shared} {h₀ : Heap} {L : Addr} {m : Str → Option Value} {news : List (Addr × Obj)}
theorem CompT_eval {env : Env} {elt iter : PySem.Expr} {x : Str} {px : Pos} {scope : Scope} {cl : List (Str × Addr)} {pos : Pos} {Q : Value → Shared → Prop} (F : Fr h₀ L s.heap m)
    (hclos : closureFor scope env = pure cl) (hcell : ∀ y ∈ scope.names, y.2 ≠ .cell) (hkind : scope.kind = .function)
    (hnames : ∀ y ∈ scope.names, y.2 = .local → scope.names.lookup y.1 = some .local) (hx : scope.names.lookup x = some .local)
    (h : wpAny (model prog w) A (eval iter env) (CompAtT none E prog w A h₀ L env scope cl x elt Q) E s)
    (hs : ∀ x, foldedSetIterable iter env x = pure x := by intro _; rfl) :
    wpAny (model prog w) A (eval (.ListComp elt [⟨.Name x px, iter, [], 0⟩] scope pos) env) Q E s := by
  rw [eval_ListComp]
  exact CompT_N F hclos hcell hkind hnames hx none h hs
theorem CompT_assign {env : Env} {elt iter : PySem.Expr} {x y : Str} {px py : Pos} {scope : Scope} {cl : List (Str × Addr)} {pos spos : Pos} {Q : Flow → Shared → Prop} (F : Fr h₀ L s.heap m)
    (hclos : closureFor scope env = pure cl) (hcell : ∀ y ∈ scope.names, y.2 ≠ .cell) (hkind : scope.kind = .function)
    (hnames : ∀ y ∈ scope.names, y.2 = .local → scope.names.lookup y.1 = some .local) (hx : scope.names.lookup x = some .local)
    (hsw : swapsWith (.ListComp elt [⟨.Name x px, iter, [], 0⟩] scope pos) (some (.Name y py)) spos.line env = pure true)
    (h : wpAny (model prog w) A (eval iter env) (CompAtT (some (assign (.Name y py) env)) E prog w A h₀ L env scope cl x elt (fun _ s' => Q .next s')) E s)
    (hs : ∀ x, foldedSetIterable iter env x = pure x := by intro _; rfl) :
    wpAny (model prog w) A (exec (.Assign [.Name y py] (.ListComp elt [⟨.Name x px, iter, [], 0⟩] scope pos) spos) env) Q E s := by
  rw [exec_Assign_Name_used _ _ _ _ hsw]
  refine wpAny_bind (wpAny_standAt (wpAny_bind ?_))
  show wpAny _ A (do let _ ← comprehension (.ListComp elt [⟨.Name x px, iter, [], 0⟩] scope pos) scope env _ (newList []) false (eval iter env) (some (assign (.Name y py) env))) _ _ s
  refine wpAny_bind (wpAny_mono (CompT_N (Q := fun _ s' => Q .next s') F hclos hcell hkind hnames hx (some (assign (.Name y py) env)) h hs) (fun _ s' hq => wpAny_pure (wpAny_pure hq)) fun _ _ e => e)
def objOf (h : Heap) : Value → Option (Addr × Obj)
  | .ref b => (h.get? b).map (b, ·)
  | _ => none
def objsOf (h : Heap) (ys : List Value) : List (Addr × Obj) := ys.filterMap (objOf h)
theorem objsOf_mem {h : Heap} {ys : List Value} {b : Addr} {o : Obj} (hv : Value.ref b ∈ ys) (ho : h.get? b = some o) : (b, o) ∈ objsOf h ys :=
  List.mem_filterMap.mpr ⟨.ref b, hv, by show (h.get? b).map (b, ·) = _; rw [ho]; rfl⟩
theorem objsOf_of {h : Heap} {ys : List Value} {q : Addr × Obj} (hq : q ∈ objsOf h ys) : Value.ref q.1 ∈ ys ∧ h.get? q.1 = some q.2 := by
  obtain ⟨v, hv, e⟩ := List.mem_filterMap.mp hq
  cases v with
  | ref b =>
    unfold objOf at e
    obtain ⟨o, ho, rfl⟩ := Option.map_eq_some_iff.mp e
    exact ⟨hv, ho⟩
  | _ => cases e
theorem things_ledger {h : Heap} {ys : List Value} {ths : List (Option Ky)} (F : Fr h₀ L h m) (hT : ThsIn (NewAt h₀ h) ys ths) : News h₀ L h (objsOf h ys) ∧ ThsIn (fun a o => (a, o) ∈ objsOf h ys) ys ths := by
  refine ⟨fun q hq => ?_, hT.len, fun i v hv => ?_⟩
  · obtain ⟨hm, ho⟩ := objsOf_of hq
    obtain ⟨i, hi⟩ := List.mem_iff_getElem?.mp hm
    obtain ⟨th, _, hth⟩ := hT.at' i _ hi
    generalize hv : Value.ref q.1 = v at hth
    cases hth with
    | key y =>
      cases y with
      | int n t _ => cases hv
      | boo b n e => cases hv
      | str n t _ => cases hv
      | tup n t a g =>
        injection hv with hv
        rw [hv] at ho ⊢
        refine ⟨ho, ?_, g.2⟩
        rintro rfl
        exact ns_odd F.ns g.1
    | lst n t c a g =>
      injection hv with hv
      rw [hv] at ho ⊢
      refine ⟨ho, ?_, g.2⟩
      rintro rfl
      exact ns_odd2 F.ns g.1
  · obtain ⟨th, a, b⟩ := hT.at' i v hv
    have hm := List.mem_of_getElem? hv
    refine ⟨th, a, ?_⟩
    cases b with
    | key y =>
      cases y with
      | int n t ht => exact .key (.int n t ht)
      | boo b n e => exact .key (.boo b n e)
      | str n t ht => exact .key (.str n t ht)
      | tup n t _ g => exact .key (.tup n t _ (objsOf_mem hm g.1))
    | lst n t c _ g => exact .lst n t c _ (objsOf_mem hm g.1)
theorem compFinT_none {Q : Value → Shared → Prop} {s₁ : Shared} {ths : List (Option Ky)} (F : Fr h₀ L s₁.heap m) (N : News h₀ L s₁.heap news)
    (h : ∀ D ys n h' tk own, Fr h₀ L h' m → News h₀ L h' ((D, listOf (List.toArray ys) n) :: (news ++ own)) → (∀ q ∈ news, q.1 ≠ D) → ThsIn (fun a o => (a, o) ∈ own) ys ths → Q (.ref D) { s₁ with heap := h', toks := tk }) :
    CompFinT prog w A E L none Q s₁ (fun h' ys => ThsIn (NewAt h₀ h') ys ths) := by
  intro D C ys n h' tk m'' hD hC hDC hn hl hk hP
  refine ⟨m'', hn, fun h'' hs'' => ?_⟩
  have kC : ∀ b o, b ≠ C → h'.get? b = some o → h''.get? b = some o := fun b o hb e => hs''.extBut b o hb e
  have keep : ∀ b o, s₁.heap.get? b = some o → h''.get? b = some o := fun b o e => kC b o (by rintro rfl; rw [hC] at e; cases e) (hk b o e)
  obtain ⟨N', hne⟩ := fresh_ledger F N hD keep (kC _ _ hDC hl)
  have F'' := F.keeps keep
  have hP'' : ThsIn (NewAt h₀ h'') ys ths := hP.move (fun b n t g => ⟨kC _ _ (by rintro rfl; exact ns_odd hn g.1) g.1, g.2⟩) (fun b n t c g => ⟨kC _ _ (by rintro rfl; exact ns_odd2 hn g.1) g.1, g.2⟩)
  obtain ⟨No, hT⟩ := things_ledger F'' hP''
  refine h D ys n h'' tk (objsOf h'' ys) F'' (fun q hq => ?_) hne hT
  rcases List.mem_cons.mp hq with rfl | hq
  · exact N' _ (.head _)
  · rcases List.mem_append.mp hq with hq | hq
    · exact N' q (.tail _ hq)
    · exact No q hq
theorem compFinT_store {env : Env} {y : Str} {py : Pos} {Q : Value → Shared → Prop} {s₁ : Shared} {ths : List (Option Ky)} (F : Fr h₀ L s₁.heap m) (N : News h₀ L s₁.heap news) (hL : env.locals = L) (hy : env.kindOf y = some .local)
    (hp : (env.scope.kind == .class || (env.scope.kind == .module && env.locals != env.globals)) = false)
    (h : ∀ D ys n h' tk own, Fr h₀ L h' (fun z => if z = y then some (.ref D) else m z) → News h₀ L h' ((D, listOf (List.toArray ys) n) :: (news ++ own)) → (∀ q ∈ news, q.1 ≠ D) → ThsIn (fun a o => (a, o) ∈ own) ys ths → Q .none { s₁ with heap := h', toks := tk }) :
    CompFinT prog w A E L (some (assign (.Name y py) env)) Q s₁ (fun h' ys => ThsIn (NewAt h₀ h') ys ths) := by
  intro D C ys n h' tk m'' hD hC hDC hn hl hk hP
  subst hL
  have F' : Fr h₀ env.locals h' m := F.keeps hk
  have hLC : env.locals ≠ C := by
    rintro e
    obtain ⟨oL, _, _, hL, _⟩ := F.ns
    rw [e, hC] at hL; cases hL
  show wpAny _ A (assign (.Name y py) env (.ref D)) _ _ _
  refine wpAny_assign_Name (wpAny_storeName_local hy F'.ns (fun h₂ hn₂ hs₂ => ?_) hp)
  refine ⟨m'', hn.sameBut hs₂ (Ne.symm hLC), fun h₃ hs₃ => ?_⟩
  obtain ⟨N', hne⟩ := fresh_ledger F N hD hk hl
  have F₂ := F'.set hn₂ hs₂
  have N₂ := N'.set hs₂
  have hC0 : h₀.get? C = none := by
    cases e : h₀.get? C with
    | none => rfl
    | some o => rw [F.keep _ _ e] at hC; cases hC
  have F₃ := F₂.change hs₃ (Ne.symm hLC) hC0
  have hnL := F'.ns
  have hP₃ : ThsIn (NewAt h₀ h₃) ys ths := hP.move
    (fun b n t g => ⟨hs₃.extBut _ _ (by rintro rfl; exact ns_odd hn g.1) (hs₂.extBut _ _ (by rintro rfl; exact ns_odd hnL g.1) g.1), g.2⟩)
    (fun b n t c g => ⟨hs₃.extBut _ _ (by rintro rfl; exact ns_odd2 hn g.1) (hs₂.extBut _ _ (by rintro rfl; exact ns_odd2 hnL g.1) g.1), g.2⟩)
  obtain ⟨No, hT⟩ := things_ledger F₃ hP₃
  refine h D ys n h₃ _ (objsOf h₃ ys) F₃ (fun q hq => ?_) hne hT
  have old : ∀ q ∈ (D, listOf (List.toArray ys) n) :: news, h₃.get? q.1 = some q.2 ∧ q.1 ≠ env.locals ∧ h₀.get? q.1 = none := fun q hq => by
    refine ⟨hs₃.extBut _ _ ?_ (N₂ q hq).1, (N₂ q hq).2⟩
    rcases List.mem_cons.mp hq with rfl | hq
    · exact hDC
    · rintro e
      have := (N q hq).1
      rw [e, hC] at this; cases this
  rcases List.mem_cons.mp hq with rfl | hq
  · exact old _ (.head _)
  · rcases List.mem_append.mp hq with hq | hq
    · exact old q (.tail _ hq)
    · exact No q hq
end
/-- the thing of an int -/
def nF (x : Int) : Fin 3 := ⟨((x.fdiv 5).fmod 3).toNat % 3, Nat.mod_lt _ (by decide)⟩
theorem fmod_bd (a : Int) {b : Int} (hb : 0 < b) : 0 ≤ a.fmod b ∧ a.fmod b < b := by
  rw [Int.fmod_eq_emod_of_nonneg a (Int.le_of_lt hb)]
  exact ⟨Int.emod_nonneg a (by omega), Int.emod_lt_of_pos a hb⟩
theorem nF_eq (x : Int) : (x.fdiv 5).fmod 3 = nOf (nF x) := by
  have h := fmod_bd (x.fdiv 5) (show (0 : Int) < 3 by decide)
  unfold nOf nF
  dsimp only
  omega
def thF (x : Int) : Option Ky :=
  if x.fmod 5 == 0 then none else if x.fmod 5 == 1 then some (.tup (nF x)) else if x.fmod 5 == 2 then some (.int (if (x.fdiv 5).fmod 3 == 1 then 1 else 0)) else if x.fmod 5 == 3 then some (.str (nF x)) else some (.int (nF x))
theorem cut_nn3 (n : Nat) : 0 ≤ (2 * (n : Int) + 2).fdiv 3 := by
  rw [Int.fdiv_eq_ediv_of_nonneg _ (by decide)]
  omega
theorem CompAtT.of {prog : Program} {w : World} {A : Around} {E : Value → Shared → Prop} {s : Shared} {h₀ : Heap} {L : Addr} {m : Str → Option Value} {news : List (Addr × Obj)} {use : Option (Value → Sem Unit)} {env : Env} {scope : Scope} {cl : List (Str × Addr)} {x : Str} {elt : PySem.Expr} {Q : Value → Shared → Prop} {ax : Addr} {vs : List Value} {na : Nat} {ns : List Int} (f : Int → Option Ky)
    (F : Fr h₀ L s.heap m) (N : News h₀ L s.heap news) (hm : (ax, listOf (List.toArray vs) na) ∈ news) (hi : IntsAre vs ns) (hz : vs.length ≤ 1000) (hh : A.handled = none)
    (fin : CompFinT prog w A E L use Q s (fun h' ys => ThsIn (NewAt h₀ h') ys (ns.map f)))
    (elt' : ∀ C D oD a t h tk m₃ E' g d o, a ∈ ns → Fr h₀ C h m₃ → Fr h₀ L h m → News h₀ L h ((D, oD) :: news) → m₃ x = some (.int a t) → wpAny (model prog w) A (eval elt (compEnvC scope cl C env)) (fun y s₄ => ThIn (fun b o => NewAt h₀ s₄.heap b o ∧ b ≠ D) y (f a) ∧ Keeps { heap := h, toks := tk, gens := g, drawn := d, os := o } s₄) E' { heap := h, toks := tk, gens := g, drawn := d, os := o }) :
    CompAtT use E prog w A h₀ L env scope cl x elt Q (.ref ax) s :=
  ⟨ax, vs, ns, m, news, f, rfl, F, N, ⟨_, (N _ hm).1, rfl, na, rfl⟩, hi, hz, hh, elt', fin⟩
theorem gen_tok {M : Model} {A : Around} {α : Type} {t : Sem α} {Q : α → Shared → Prop} {E : Value → Shared → Prop} {h : Heap} {g : Array GenState} {d : Drawn} {X : Nat} {o : OsState} (k : ∀ tk : Nat, tk ≠ 0 → wpAny M A t Q E ⟨h, g, d, tk, o⟩) : wpAny M A t Q E ⟨h, g, d, X + 1, o⟩ := k _ (Nat.succ_ne_zero _)
theorem thing_lst {G : Addr → Obj → Prop} {a : Int} {b : Addr} {t : Tok} {c : Nat} (h : a.fmod 5 = 0) (g : G b (lstObj ((a.fdiv 5).fmod 3) t c)) : ThIn G (.ref b) (thF a) := by
  unfold thF
  rw [h, if_pos (by decide)]
  exact .lst _ _ _ _ g
theorem thing_tup {G : Addr → Obj → Prop} {a : Int} {b : Addr} {t : Tok} (h : a.fmod 5 = 1) (g : G b { cls := .type "tuple", data := .seq #[.int ((a.fdiv 5).fmod 3) t] }) : ThIn G (.ref b) (thF a) := by
  unfold thF
  rw [h, if_neg (by decide), if_pos (by decide)]
  rw [nF_eq] at g
  exact .key (.tup _ _ _ g)
theorem thing_boo {G : Addr → Obj → Prop} {a : Int} (h : a.fmod 5 = 2) : ThIn G (.bool ((a.fdiv 5).fmod 3 == 1)) (thF a) := by
  unfold thF
  rw [h, if_neg (by decide), if_neg (by decide), if_pos (by decide)]
  refine .key (.boo _ _ ?_)
  split <;> simp_all <;> rfl
theorem thing_str {G : Addr → Obj → Prop} {a : Int} {t : Tok} (h : a.fmod 5 = 3) (ht : t ≠ 0) : ThIn G (.str (Str.ofString (toString ((a.fdiv 5).fmod 3))) t) (thF a) := by
  unfold thF
  rw [h, if_neg (by decide), if_neg (by decide), if_neg (by decide), if_pos (by decide)]
  rw [nF_eq]
  exact .key (.str _ _ ht)
theorem thing_int {G : Addr → Obj → Prop} {a : Int} {t : Tok} (h0 : a.fmod 5 ≠ 0) (h1 : a.fmod 5 ≠ 1) (h2 : a.fmod 5 ≠ 2) (h3 : a.fmod 5 ≠ 3) (ht : t ≠ 0) : ThIn G (.int ((a.fdiv 5).fmod 3) t) (thF a) := by
  unfold thF
  rw [if_neg (by simpa using h0), if_neg (by simpa using h1), if_neg (by simpa using h2), if_neg (by simpa using h3)]
  rw [nF_eq]
  exact .key (.int _ _ ht)
end Mine
namespace Mine
section
variable {prog : Program} {w : World} {A : Around} {E : Value → Shared → Prop} {s : Shared} {h₀ : Heap} {L : Addr} {m : Str → Option Value} {news : List (Addr × Obj)}
theorem add_any {a b : Addr} {vs ws : List Value} {na nb : Nat} {Q : Value → Shared → Prop} (F : Fr h₀ L s.heap m) (N : News h₀ L s.heap news) (ha : (a, listOf (List.toArray vs) na) ∈ news) (hb : (b, listOf (List.toArray ws) nb) ∈ news) (hz : vs.length + ws.length ≤ 1000)
    (h : ∀ D h', Fr h₀ L h' m → News h₀ L h' ((D, listOf (List.toArray (vs ++ ws)) 0) :: news) → (∀ p ∈ news, p.1 < D) → Q (.ref D) { s with heap := h' }) : wpAny (model prog w) A (binaryOp .Add (.ref a) (.ref b)) Q E s := by
  refine add_lists F N ⟨_, (N _ ha).1, rfl, na, rfl⟩ ⟨_, (N _ hb).1, rfl, nb, rfl⟩ (fun h' F' N' => ?_) (by rw [sizeLine_eq]; omega)
  exact h _ h' F' N' fun p hp => Heap.lt_size (N p hp).1
theorem set_things_N {l : Addr} {vs : List Value} {nl : Nat} {ths : List (Option Ky)} {G : Addr → Obj → Prop} {Q : Value → Shared → Prop} (F : Fr h₀ L s.heap m) (N : News h₀ L s.heap news) (hm : (l, listOf (List.toArray vs) nl) ∈ news) (hths : ThsIn G vs ths) (hG : ∀ a o, G a o → (a, o) ∈ news) (hh : A.handled = none) (hu : A.units + 10 < cLine)
    (ok : none ∉ ths → ∀ S so ks h' tk, Fr h₀ L h' m → News h₀ L h' ((S, so) :: news) → (∀ p ∈ news, p.1 < S) → SetK w G so ks → (∀ j, j ∈ ks ↔ some j ∈ ths) → Q (.ref S) { s with heap := h', toks := tk })
    (bad : none ∈ ths → ∀ h₁ h' tk e, Fr h₀ L h₁ m → News h₀ L h₁ news → Heap.NewExc h₁ h' e "TypeError" → E (.ref e) { s with heap := h', toks := tk }) :
    wpAny (model prog w) A (call (.type "set") [.ref l]) Q E s := by
  refine set_things hh (N _ hm).1 (fun a o g => (N _ (hG a o g)).1) hths hu (fun hn h' tk so' ks' hk ho hS hm' => ?_) (fun hn h₁ h' tk e hk hx => ?_)
  · exact ok hn _ so' ks' h' tk (F.keeps hk) (News_new F N hk (Nat.le_refl _) ho) (fun p hp => Heap.lt_size (N p hp).1) hS hm'
  · exact bad hn h₁ h' tk e (F.keeps hk) (News_keeps N hk) hx
theorem getAttr_hasK_N {S : Addr} {so : Obj} {G : Addr → Obj → Prop} {ks : List Ky} {expr : Bool} {Q : Value → Shared → Prop} (F : Fr h₀ L s.heap m) (N : News h₀ L s.heap news) (hm : (S, so) ∈ news) (hs : SetK w G so ks)
    (h : ∀ b h', Fr h₀ L h' m → News h₀ L h' ((b, boundHas S) :: news) → (∀ p ∈ news, p.1 < b) → Q (.ref b) { s with heap := h', toks := s.toks + 1 }) :
    wpAny (model prog w) A (getAttr (.ref S) "__contains__" expr) Q E s := by
  obtain ⟨es, ep, t, rfl, _⟩ := hs
  exact getAttr_set_has (N _ hm).1 (h _ _ (F.push _) (N.push F _) fun p hp => Heap.lt_size (N p hp).1)
end
theorem row_ths {G : Addr → Obj → Prop} {ys : List Value} {ths : List (Option Ky)} {d l : Addr} {t u : Tok} {c : Nat} (hd : G d { cls := .type "tuple", data := .seq #[.int 1 t] }) (hl : G l (listOf #[.int 1 u] c)) (h : ThsIn G ys ths) : ThsIn G ([.ref d, .ref l, .bool true] ++ ys) ([some (.tup 1), none, some (.int 1)] ++ ths) := by
  refine ⟨by simp [h.len], fun i v hv => ?_⟩
  match i with
  | 0 => exact ⟨_, rfl, by cases hv; exact .key (.tup 1 t d hd)⟩
  | 1 => exact ⟨_, rfl, by cases hv; exact .lst 1 u c l hl⟩
  | 2 => exact ⟨_, rfl, by cases hv; exact .key (.boo true 1 rfl)⟩
  | i + 3 => exact h.at' i v hv
end Mine
namespace Mine
theorem split8 {h₀ h : Heap} {L : Addr} {x1 x2 x3 x4 x5 x6 p q : Addr × Obj} {own1 own2 : List (Addr × Obj)} (N : News h₀ L h (x1 :: x2 :: x3 :: x4 :: x5 :: x6 :: p :: q :: (own1 ++ own2))) :
    ∃ ownB, News h₀ L h (x1 :: x2 :: x3 :: x4 :: x5 :: x6 :: ownB) ∧ p ∈ ownB ∧ q ∈ ownB ∧ (∀ a o, (a, o) ∈ own1 → (a, o) ∈ ownB) ∧ (∀ a o, (a, o) ∈ own2 → (a, o) ∈ ownB) :=
  ⟨_, N, .head _, .tail _ (.head _), fun _ _ h => .tail _ (.tail _ (List.mem_append_left _ h)), fun _ _ h => .tail _ (.tail _ (List.mem_append_right _ h))⟩
theorem ThsIn.cons {G : Addr → Obj → Prop} {v : Value} {vs : List Value} {ths : List (Option Ky)} (x : ThsIn G (v :: vs) ths) : ∃ th r, ths = th :: r ∧ ThIn G v th ∧ ThsIn G vs r := by
  obtain ⟨th, a, b⟩ := x.at' 0 v rfl
  match ths, x, a with
  | [], x, a => simp at a
  | th' :: r, x, a =>
    simp at a
    subst a
    exact ⟨_, r, rfl, b, by have := x.len; simpa using this, fun i u hu => by have := x.at' (i + 1) u (by simpa using hu); simpa using this⟩
theorem ThsIn.mk_cons {G : Addr → Obj → Prop} {v : Value} {vs : List Value} {th : Option Ky} {r : List (Option Ky)} (h : ThIn G v th) (x : ThsIn G vs r) : ThsIn G (v :: vs) (th :: r) := by
  refine ⟨by simp [x.len], fun i u hu => ?_⟩
  match i with
  | 0 => cases hu; exact ⟨th, rfl, h⟩
  | i + 1 => exact x.at' i u (by simpa using hu)
def Uniq (G : Addr → Obj → Prop) : Prop := ∀ a o o', G a o → G a o' → o = o'
theorem uniq_of {h₀ h : Heap} {L : Addr} {news : List (Addr × Obj)} (N : News h₀ L h news) {own : List (Addr × Obj)} (hs : ∀ p ∈ own, p ∈ news) : Uniq (fun a o => (a, o) ∈ own) := fun a o o' h1 h2 => by
  have e1 := (N _ (hs _ h1)).1
  have e2 := (N _ (hs _ h2)).1
  rw [e1] at e2
  exact Option.some.inj e2
open Classical in
noncomputable def plainV (G : Addr → Obj → Prop) (v : Value) : Bool := decide (∃ k, ThIn G v (some k))
theorem plainV_eq {G : Addr → Obj → Prop} (hU : Uniq G) {v : Value} {th : Option Ky} (h : ThIn G v th) : plainV G v = th.isSome := by
  unfold plainV
  cases th with
  | some k => exact @decide_eq_true _ (Classical.propDecidable _) ⟨k, h⟩
  | none =>
    refine @decide_eq_false _ (Classical.propDecidable _) ?_
    rintro ⟨k, hk⟩
    cases h with
    | lst n t c a g =>
      cases hk with
      | key y =>
        cases y with
        | tup n' t' _ g' =>
          have := hU _ _ _ g g'
          simp at this
theorem plain_filter {G : Addr → Obj → Prop} (hU : Uniq G) : ∀ {vs : List Value} {ths : List (Option Ky)} {ys : List Value}, ThsIn G vs ths → Paired (fun v y => y = v) (vs.filter (plainV G)) ys → ThsIn G ys (ths.filter (·.isSome)) ∧ ys.length ≤ vs.length
  | [], ths, ys, h, hP => by
    cases hP
    have : ths = [] := List.eq_nil_of_length_eq_zero h.len.symm
    subst this
    exact ⟨h, Nat.le_refl _⟩
  | v :: vs, ths, ys, h, hP => by
    obtain ⟨th, r, rfl, h1, h2⟩ := h.cons
    rw [List.filter_cons, plainV_eq hU h1] at hP
    rw [List.filter_cons]
    cases th with
    | none =>
      simp only [Option.isSome_none, Bool.false_eq_true, if_false] at hP ⊢
      obtain ⟨a, b⟩ := plain_filter hU h2 hP
      exact ⟨a, by rw [List.length_cons]; omega⟩
    | some k =>
      simp only [Option.isSome_some, if_true] at hP ⊢
      cases hP with
      | cons e r' =>
        subst e
        obtain ⟨a, b⟩ := plain_filter hU h2 r'
        exact ⟨ThsIn.mk_cons h1 a, by simp; omega⟩
section
variable {prog : Program} {w : World} {A : Around} {E : Value → Shared → Prop} {s : Shared} {h₀ : Heap} {L : Addr} {m : Str → Option Value} {news : List (Addr × Obj)}
/-- [x for x in l if it is no list] -/
theorem comp_plain {G : Addr → Obj → Prop} (hU : Uniq G) {use : Option (Value → Sem Unit)} {env : Env} {scope : Scope} {cl : List (Str × Addr)} {x : Str} {ct : PySem.Expr} {pos : Pos} {Q : Value → Shared → Prop} {ax : Addr} {vs : List Value} {na : Nat} {ths : List (Option Ky)}
    (F : Fr h₀ L s.heap m) (N : News h₀ L s.heap news) (hm : (ax, listOf (List.toArray vs) na) ∈ news) (hT : ThsIn G vs ths) (hz : vs.length ≤ 1000) (hh : A.handled = none)
    (hk : scope.kind = .function) (hx : ∀ C, (compEnvC scope cl C env).kindOf x = some .local) (hd : (x == ("__debug__" : Str)) = false)
    (fin : CompFin prog w A E h₀ L use Q s m news (fun ys => ThsIn G ys (ths.filter (·.isSome)) ∧ ys.length ≤ vs.length))
    (test : ∀ C v th h tk m₃ E' g d o, ThIn G v th → Fr h₀ C h m₃ → News h₀ C h news → m₃ x = some v → wpAny (model prog w) A (isTrue ct (compEnvC scope cl C env) (eval ct (compEnvC scope cl C env))) (fun ok s₄ => ok = th.isSome ∧ Keeps { heap := h, toks := tk, gens := g, drawn := d, os := o } s₄) E' { heap := h, toks := tk, gens := g, drawn := d, os := o }) :
    CompAtU use E prog w A h₀ L env scope cl x [ct] (.Name x pos) Q (.ref ax) s := by
  refine ⟨ax, vs, m, news, plainV G, fun v y => y = v, rfl, F, N, ⟨_, (N _ hm).1, rfl, na, rfl⟩, by rw [sizeLine_eq]; omega, hh, quietT_one ?_, ?_, ?_⟩
  · intro C v h tk m₃ E' g d o hv F₃ N₃ hm₃
    obtain ⟨i, hi⟩ := List.mem_iff_getElem?.mp hv
    obtain ⟨th, _, hth⟩ := hT.at' i v hi
    rw [plainV_eq hU hth]
    exact test C v th h tk m₃ E' g d o hth F₃ N₃ hm₃
  · intro C v h tk m₃ E' g d o hv _ F₃ N₃ hm₃
    exact name_comp (s := { heap := h, toks := tk, gens := g, drawn := d, os := o }) F₃ hm₃ ⟨rfl, ⟨_, _, rfl, fun _ _ e => e⟩⟩ hk (hx C) hd
  · intro D C ys n h' tk m'' a1 a2 a3 a4 a5 a6 hP
    exact fin D C ys n h' tk m'' a1 a2 a3 a4 a5 a6 (plain_filter hU hT hP)
theorem isin_lst {a : Addr} {n : Int} {t : Tok} {c : Nat} {Q : Value → Shared → Prop} (N : News h₀ L s.heap news) (hm : (a, lstObj n t c) ∈ news) (h : Q (.bool true) s) : wpAny (model prog w) A (call (.builtin "isinstance") [.ref a, .type "list"]) Q E s := IsiPair.list_list (N _ hm).1 rfl h
theorem isin_tup {a : Addr} {n : Fin 3} {t : Tok} {Q : Value → Shared → Prop} (N : News h₀ L s.heap news) (hm : (a, tupObj n t) ∈ news) (h : Q (.bool false) { s with toks := s.toks + 1 }) : wpAny (model prog w) A (call (.builtin "isinstance") [.ref a, .type "list"]) Q E s := IsiPair.tuple_list (N _ hm).1 rfl h
theorem iter_li_N {I l : Addr} {oI : Obj} {i : Nat} {Q : Value → Shared → Prop} (F : Fr h₀ L s.heap m) (N : News h₀ L s.heap news) (hm : (I, oI) ∈ news) (hc : oI.cls = .type "list_iterator") (hd : oI.data = .fields #[.ref l, .int i 0])
    (h : Q (.ref I) s) : wpAny (model prog w) A (call (.builtin "iter") [.ref I]) Q E s :=
  iter_open (wpAny_pyIter_listiter ⟨oI, (N _ hm).1, hc, hd⟩ h)
end
end Mine
namespace Mine
def HaltOff : Prop := True
def Halt (P : Prop) : Prop := P
theorem haltI {P : Prop} (h : Halt P) : P := h
section
variable {prog : Program} {w : World} {A : Around} {E : Value → Shared → Prop} {s : Shared} {h₀ : Heap} {L : Addr} {m : Str → Option Value} {news : List (Addr × Obj)}
/-- a statement's ways meet -/
theorem cutMid {M : Model} {t : Sem Flow} {Q : Flow → Shared → Prop} (MID : Shared → Prop) (h1 : wpAny M A t (fun f s' => f = Flow.next ∧ MID s') E s) (h2 : ∀ s', MID s' → Q .next s') : wpAny M A t Q E s :=
  wpAny_mono h1 (fun f s' h => by obtain ⟨rfl, h⟩ := h; exact h2 s' h) fun _ _ z => z
/-- behind the refusal or the lack of one -/
def Mid1 (h₀ : Heap) (L : Addr) (m : Str → Option Value) (s : Shared) (I : Addr) (oI : Obj) (ns own : List (Addr × Obj)) (b : Bool) (s' : Shared) : Prop :=
  ∃ h' tk own', s' = { s with heap := h', toks := tk } ∧ Fr h₀ L h' (fun (y : Str) => if y = "refused" then some (.bool b) else m y) ∧ News h₀ L h' ((I, oI) :: own') ∧ OwnOff own' [I] ∧ (∀ p ∈ ns, p ∈ own') ∧ (∀ p ∈ own, p ∈ own')
theorem mid1_of {h' : Heap} {tk : Nat} {m' : Str → Option Value} {I : Addr} {oI : Obj} {ns own news : List (Addr × Obj)} {b : Bool} (F : Fr h₀ L h' m') (N : News h₀ L h' news) (hm : ∀ y : Str, m' y = if y = "refused" then some (.bool b) else m y) (hI : (I, oI) ∈ news) (hns : ∀ p ∈ ns, p ∈ news) (hne : ∀ p ∈ ns, p.1 ≠ I) (hown : ∀ p ∈ own, p ∈ news) (hoff : ∀ p ∈ own, p.1 ≠ I) :
    Mid1 h₀ L m s I oI ns own b { s with heap := h', toks := tk } := by
  have N2 := news_back N (hd := [(I, oI)]) (by intro q hq; rw [List.mem_singleton] at hq; rw [hq]; exact hI)
  refine ⟨h', tk, _, rfl, ?_, N2, beside_off _, fun p hp => List.mem_filter.mpr ⟨hns p hp, ?_⟩, fun p hp => List.mem_filter.mpr ⟨hown p hp, ?_⟩⟩
  · have : m' = fun (y : Str) => if y = "refused" then some (.bool b) else m y := funext hm
    rw [← this]; exact F
  · simpa using hne p hp
  · simpa using hoff p hp
theorem cut1 {M : Model} {t : Sem Flow} {Q : Flow → Shared → Prop} {I : Addr} {oI : Obj} {d3 d2 g1 rw : Addr × Obj} {rest : List (Addr × Obj)} (own : List (Addr × Obj)) (b : Bool) (_F : Fr h₀ L s.heap m) (_N : News h₀ L s.heap ((I, oI) :: d3 :: d2 :: g1 :: rw :: rest))
    (h1 : wpAny M A t (fun f s' => f = Flow.next ∧ Mid1 h₀ L m s I oI [d3, d2, rw] own b s') E s)
    (h2 : ∀ h' tk own', Fr h₀ L h' (fun (y : Str) => if y = "refused" then some (.bool b) else m y) → News h₀ L h' ((I, oI) :: own') → OwnOff own' [I] → d3 ∈ own' → d2 ∈ own' → rw ∈ own' → (∀ p ∈ own, p ∈ own') → Q .next { s with heap := h', toks := tk }) : wpAny M A t Q E s := by
  refine cutMid _ h1 fun s' h => ?_
  obtain ⟨h', tk, own', rfl, F', N', ho, hns, hown⟩ := h
  exact h2 h' tk own' F' N' ho (hns _ (.head _)) (hns _ (.tail _ (.head _))) (hns _ (.tail _ (.tail _ (.head _)))) hown
theorem len_any {l : Addr} {vs : List Value} {n : Nat} {Q : Value → Shared → Prop} (N : News h₀ L s.heap news) (hm : (l, listOf (List.toArray vs) n) ∈ news) (hz : vs.length ≤ 1000)
    (h : ∀ t tk, t ≠ 0 → Q (.int (vs.length : Int) t) { s with toks := tk }) : wpAny (model prog w) A (call (.builtin "len") [.ref l]) Q E s := by
  refine call_len_list (items := vs.toArray) ⟨_, (N _ hm).1, rfl, n, rfl⟩ (by simp; omega) ?_
  have := h (s.toks + 1) (s.toks + 1 + 1) (Nat.succ_ne_zero _)
  simpa using this
end
theorem none_notin {ths : List (Option Ky)} (h : none ∈ ths.filter (·.isSome)) : False := by
  have := (List.mem_filter.mp h).2
  simp at this
theorem ths_abs {G : Addr → Obj → Prop} {ys : List Value} {X : List (Option Ky)} (h : ThsIn G ys X) : ∃ ths, ThsIn G ys ths ∧ ths.length = X.length := ⟨X, h, rfl⟩
theorem some_len : ∀ {ths : List (Option Ky)}, none ∉ ths → (ths.filter (·.isSome)).length = ths.length
  | [], _ => rfl
  | some k :: r, h => by
    rw [List.filter_cons]
    simp only [Option.isSome_some, if_true, List.length_cons]
    rw [some_len fun hm => h (.tail _ hm)]
  | none :: r, h => absurd (.head _) h
theorem none_len : ∀ {ths : List (Option Ky)}, none ∈ ths → (ths.filter (·.isSome)).length < ths.length
  | none :: r, h => by
    rw [List.filter_cons]
    simp only [Option.isSome_none, Bool.false_eq_true, if_false, List.length_cons]
    have := List.length_filter_le (fun x : Option Ky => x.isSome) r
    omega
  | some k :: r, h => by
    rw [List.filter_cons]
    simp only [Option.isSome_some, if_true, List.length_cons]
    have := none_len (ths := r) (by rcases List.mem_cons.mp h with e | h; cases e; exact h)
    omega
def hasNone (ths : List (Option Ky)) : Bool := (ths.filter (·.isSome)).length < ths.length
theorem hasNone_f {ths : List (Option Ky)} (h : none ∉ ths) : hasNone ths = false := by
  unfold hasNone; rw [some_len h]; exact decide_eq_false (Nat.lt_irrefl _)
theorem hasNone_t {ths : List (Option Ky)} (h : none ∈ ths) : hasNone ths = true := by
  unfold hasNone; exact decide_eq_true (none_len h)
theorem hasNone_ne {α : Type} {bt : List (Option Ky)} {a b : List α} (hb : b.length = bt.length) (ha : a.length = (bt.filter (·.isSome)).length) : (hasNone bt != decide ((a.length : Int) < (b.length : Int))) = false := by
  have : decide ((a.length : Int) < (b.length : Int)) = hasNone bt := by
    unfold hasNone
    rw [ha, hb, Bool.eq_iff_iff, decide_eq_true_iff, decide_eq_true_iff]
    omega
  rw [this, bne_self_eq_false]
end Mine
namespace Mine
section
variable {prog : Program} {w : World} {A : Around} {E : Value → Shared → Prop} {s : Shared}
theorem has_bodyK {S : Addr} {so : Obj} {ks : List Ky} {x : Value} {th : Option Ky} {Q : Fin → Shared → Prop} (hh : A.handled = none) (hx : ThIn (AtH s.heap) x th) (ho : s.heap.get? S = some so) (hS : SetK w (AtH s.heap) so ks) (hu : A.units + 2 < cLine)
    (ok : ∀ k tk, th = some k → Q (.done (.ret (.bool (decide (k ∈ ks))))) { s with toks := tk }) (bad : th = none → ∀ h' tk e, Heap.NewExc s.heap h' e "TypeError" → E (.ref e) { s with heap := h', toks := tk }) :
    wpAny (model prog w) A (Builtin.«frozenset.__contains__» ⟨[.ref S, x], []⟩) Q E s := by
  unfold Builtin.«frozenset.__contains__» Builtin.Frozenset.oneOther
  simp only [List.isEmpty_nil, bind_assoc]
  unfold Builtin.Frozenset.addrOf Builtin.Frozenset.withSetAsKey setContains
  refine wpAny_bind (wpAny_pure ?_)
  try dsimp only
  refine wpAny_bind (wpAny_pure ?_)
  try dsimp only
  refine wpAny_bind (wpAny_tryCatch ?_)
  refine wpAny_holding ?_
  cases hx with
  | @key _ k y =>
    refine wpAny_bind (pyHash_K y hu fun tk => ?_)
    refine wpAny_bind (setFind_K (s := { s with toks := tk }) y ho hS hu fun r hr => ?_)
    refine wpAny_pure ?_
    show wpAny _ _ (ret (Value.bool r.isSome)) _ _ _
    rw [hr]
    exact wpAny_pure (ok k tk rfl)
  | lst n t c l g =>
    refine wpAny_bind (pyHash_lst hh g (by omega) fun h' tk e hn => ?_)
    have hT : Shared.TypeIs { s with heap := h', toks := tk } (.ref l) "list" := ⟨_, hn.keeps _ _ g, rfl⟩
    refine wpAny_bind (m := _ <&&> _) ?_
    unfold andM
    refine wpAny_bind (wpAny_isInstance hT PySem.F.sub_list_set ?_)
    show wpAny _ _ (pure false) _ _ _
    refine wpAny_pure ?_
    rw [if_pos (by rfl)]
    exact wpAny_bind (wpAny_throw (bad rfl h' tk e hn))
theorem call_hasK {b S : Addr} {so : Obj} {ks : List Ky} {x : Value} {th : Option Ky} {Q : Value → Shared → Prop} (hh : A.handled = none) (hb : s.heap.get? b = some (boundHas S)) (hx : ThIn (AtH s.heap) x th) (ho : s.heap.get? S = some so) (hS : SetK w (AtH s.heap) so ks) (hu : A.units + 3 < cLine)
    (ok : ∀ k tk, th = some k → Q (.bool (decide (k ∈ ks))) { s with toks := tk }) (bad : th = none → ∀ h' tk e, Heap.NewExc s.heap h' e "TypeError" → E (.ref e) { s with heap := h', toks := tk }) :
    wpAny (model prog w) A (call (.ref b) [x]) Q E s := by
  have hT : s.TypeIs (.ref S) "set" := by obtain ⟨es, ep, t, rfl, _⟩ := hS; exact ⟨_, ho, rfl⟩
  have hno : ∃ o es ep t, s.heap.get? S = some o ∧ o.data = .set es ep t := by obtain ⟨es, ep, t, rfl, _⟩ := hS; exact ⟨_, es, ep, t, ho, rfl⟩
  exact call_bound hb hT hno (has_bodyK (by show A.handled = none; exact hh) hx ho hS (by show A.units + 1 + 2 < cLine; omega) (fun k tk e => ⟨_, rfl, ok k tk e⟩) bad)
end
end Mine
namespace Mine
open Sem (wp)
/-- a record whose third cell is none -/
def Bare (o : Obj) : Prop := ∃ vs, o.data = .fields vs ∧ vs[2]? = some Value.none
def BareAt (e : Addr) (h : Heap) : Prop := ∃ o, h.get? e = some o ∧ Bare o
/-- a tree that runs no code and leaves every record's third cell -/
inductive Still {α : Type} : Sem α → Prop
  | pure (a : α) : Still (.pure a)
  | raise (e : Value) : Still (.raise e)
  | unsupported (x : String) : Still (.unsupported x)
  | load (a : Addr) (p : Option Value) (k : Obj → Sem α) : (∀ o, Still (k o)) → Still (.load a p k)
  | update (a : Addr) (p : Option Value) (f : Obj → Obj) (k : Unit → Sem α) : (∀ o, Bare o → Bare (f o)) → Still (k ()) → Still (.update a p f k)
  | alloc (o : Obj) (k : Addr → Sem α) : (∀ a, Still (k a)) → Still (.alloc o k)
  | stack (k : List (Code × Pos) → Sem α) : (∀ l, Still (k l)) → Still (.stack k)
theorem Still.bind {α β : Type} {t : Sem α} {f : α → Sem β} (x : Still t) (y : ∀ a, Still (f a)) : Still (t.bind f) := by
  induction x with
  | pure a => exact y a
  | raise e => exact .raise e
  | unsupported x => exact .unsupported x
  | load a p k _ ih => exact .load a p _ ih
  | update a p f k hf _ ih => exact .update a p f _ hf ih
  | alloc o k _ ih => exact .alloc o _ ih
  | stack k _ ih => exact .stack _ ih
theorem Still.bind' {α β : Type} {t : Sem α} {f : α → Sem β} (x : Still t) (y : ∀ a, Still (f a)) : Still (t >>= f) := x.bind y
theorem Still.wp {α : Type} {M : Model} {Γ : Ctx} {t : Sem α} {Q : α → Pos → Shared → Prop} {E : Value → Pos → Shared → Prop} {e : Addr} (x : Still t) : ∀ (p : Pos) (s : Shared), BareAt e s.heap → wp M Γ t Q E p s → wp M Γ t (fun a p s => Q a p s ∧ BareAt e s.heap) (fun a p s => E a p s ∧ BareAt e s.heap) p s := by
  induction x with
  | pure a => intro p s hb hw; simp only [Sem.wp] at hw ⊢; exact ⟨hw, hb⟩
  | raise e => intro p s hb hw; simp only [Sem.wp] at hw ⊢; exact ⟨hw, hb⟩
  | unsupported x => intro p s hb hw; simp only [Sem.wp] at hw
  | load a p k _ ih =>
    intro p s hb hw
    simp only [Sem.wp] at hw ⊢
    obtain ⟨o, ho, hw⟩ := hw
    exact ⟨o, ho, ih o p s hb hw⟩
  | update a p f k hf _ ih =>
    intro p s hb hw
    simp only [Sem.wp] at hw ⊢
    refine ⟨hw.1, ih p _ ?_ hw.2⟩
    obtain ⟨o, ho, hbo⟩ := hb
    by_cases hae : a = e
    · subst hae
      obtain ⟨vs, hd, _⟩ := hf o hbo
      exact ⟨_, Heap.get?_update_self f ho (Obj.isFreed_of_fields hd), hf o hbo⟩
    · exact ⟨o, (Heap.get?_update_other _ _ hae).trans ho, hbo⟩
  | alloc o k _ ih =>
    intro p s hb hw
    simp only [Sem.wp] at hw ⊢
    obtain ⟨o', ho, hbo⟩ := hb
    exact ih _ p _ ⟨o', Heap.get?_push_of_some _ ho, hbo⟩ hw
  | stack k _ ih =>
    intro p s hb hw
    simp only [Sem.wp] at hw ⊢
    exact ih _ p s hb hw
theorem Still.any {α : Type} {M : Model} {A : Around} {t : Sem α} {Q : α → Shared → Prop} {E : Value → Shared → Prop} {s : Shared} {e : Addr} (x : Still t) (hb : BareAt e s.heap) (h : wpAny M A t Q E s) : wpAny M A t (fun a s' => Q a s' ∧ BareAt e s'.heap) E s := fun Γ p hΓ =>
  PySem.Sem.wp_mono _ _ _ (fun _ _ _ h => h) (fun _ _ _ h => h.1) _ _ (x.wp p s hb (h Γ p hΓ))
theorem still_load (a : Addr) : Still (load a) := .load a _ _ fun o => .pure o
theorem still_stack : Still stack := .stack _ fun l => .pure l
theorem bare_map {i : Nat} {v : Value} (hi : i ≠ 2) (o : Obj) (h : Bare o) : Bare (Obj.mapFields (·.setIfInBounds i v) o) := by
  obtain ⟨vs, hd, h2⟩ := h
  exact ⟨_, Obj.data_mapFields hd _, by rw [Array.getElem?_setIfInBounds_ne hi]; exact h2⟩
theorem still_field (v : Value) (i : Nat) : Still (field v i) := by
  unfold field
  refine Still.bind' ?_ fun vs => ?_
  · unfold fieldsOf
    split
    · refine Still.bind' (still_load _) fun o => ?_
      split
      · exact .pure _
      · exact .unsupported _
    · exact .unsupported _
  · split
    · exact .pure _
    · exact .unsupported _
theorem still_setField (v : Value) (i : Nat) (x : Value) (hi : i ≠ 2) : Still (setField v i x) := by
  unfold setField
  split
  · unfold updateField
    refine Still.bind' (still_load _) fun o => ?_
    split
    · split
      · exact .update _ _ _ _ (fun o => bare_map hi o) (.pure _)
      · exact .unsupported _
    · exact .unsupported _
  · exact .unsupported _
theorem still_ready : ∀ (l : List Env), Still (readyFrames l) := by
  intro l
  induction l with
  | nil => exact .pure _
  | cons env outer ih =>
    unfold readyFrames
    cases hf : env.frame with
    | none => exact .unsupported _
    | some f =>
      refine Still.bind' (still_load _) fun o => ?_
      (try dsimp only)
      split
      · exact .pure _
      · refine Still.bind' ?_ fun im => Still.bind' ?_ fun bk => Still.bind' ?_ fun _ => ih
        · unfold behindIsImport
          split
          · exact .pure _
          · split
            · exact .pure _
            · exact Still.bind' (still_field _ _) fun _ => .pure _
        · unfold keptBack
          split
          · split
            · exact .pure _
            · refine Still.bind' ?_ fun _ => .pure _
              unfold underTheClaimsCaller
              exact Still.bind' still_stack fun _ => .pure _
          · exact .pure _
        · refine .update _ _ _ _ (fun o ho => ?_) (.pure _)
          obtain ⟨vs, hd, h2⟩ := ho
          exact ⟨vs, hd, h2⟩
theorem still_frameOf (env : Env) : Still (PySem.frameOf env) := by
  unfold PySem.frameOf
  refine Still.bind' ?_ fun l => Still.bind' ?_ fun r => ?_
  · unfold frameEnvs
    exact Still.bind' still_stack fun _ => .pure _
  · unfold frameObject
    split
    · exact .pure _
    · exact Still.bind' (still_ready _) fun _ => .pure _
  · split
    · exact .pure _
    · exact .unsupported _
theorem still_entryPlace (f : Addr) (b : Bool) : Still (entryPlaceOf f b) := by
  unfold entryPlaceOf
  refine Still.bind' still_stack fun l => ?_
  dsimp only
  split <;> exact .pure _
theorem still_newEntry (a b c d e : Value) (l : List Value) : Still (EntryCells.newEntry a b c d e l) := by
  unfold EntryCells.newEntry newFields newObj
  dsimp only
  have hn : ∀ dt, Still (newObjAsIs (.type "traceback") dt) := fun dt => by
    unfold newObjAsIs
    exact Still.bind' (.alloc _ _ fun a => .pure a) fun _ => .pure _
  have hi : ∀ (dt : Data) (c : Prop) [Decidable c], Still (if c then (do unsupported "record:memory"; newObjAsIs (.type "traceback") dt : Sem Value) else newObjAsIs (.type "traceback") dt) := fun dt c _ => by
    split
    · exact .unsupported _
    · exact hn _
  split
  · exact hi _ _
  · exact hi _ _
theorem still_setFlight (e : Value) (fr : Option Addr) : Still (setFlight e fr) := by
  unfold setFlight
  refine Still.bind' (still_field _ _) fun tb => ?_
  split
  · exact still_setField _ _ _ (by decide)
  · exact .pure _
theorem still_note (e : Value) (env : Env) : Still (noteFrame e env) := by
  unfold noteFrame
  cases env.frame with
  | none => exact .unsupported _
  | some f =>
    refine Still.bind' (still_field _ _) fun head => ?_
    have hlast : Still (do setField e 1 (← EntryCells.newEntry head (← PySem.frameOf env) .none (rawInt f) .none (← entryPlaceOf f (head != .none)))) :=
      Still.bind' (still_frameOf _) fun _ => Still.bind' (still_entryPlace _ _) fun _ => Still.bind' (still_newEntry _ _ _ _ _ _) fun _ => still_setField _ _ _ (by decide)
    dsimp only
    split
    · refine Still.bind' (still_field _ _) fun _ => ?_
      split
      · exact .pure _
      · exact Still.bind' (still_setField _ _ _ (by decide)) fun _ => hlast
    · exact hlast
theorem still_leaving (env : Env) (e : Value) : Still (leaving env e) := Still.bind' (still_note _ _) fun _ => still_setFlight _ _
end Mine
namespace Mine
section
variable {M : Model} {A : Around} {E : Value → Shared → Prop} {s' : Shared} {base g g₂ h : Heap} {outer : List Env} {L a e t : Addr} {m : Str → Option Value} {name : Str} {scope : Scope} {cd : Value} {Q : Unit → Shared → Prop} {news : List (Addr × Obj)}
theorem leave_bare {cls : String} (K : Below A base outer g) (hx : Heap.NewExc h s'.heap e cls) (F : Fr g L h m) (N : News g L h news)
    (hQ : ∀ h', RaisedN base outer e (.type cls) news h' → g.UpToSlots h' → BareAt e h' → Q () { s' with heap := h' }) (hk : scope.kind = .function := by rfl) :
    wpAny M (A.deeper (envOf name scope L a cd)) (leaving (envOf name scope L a cd) (.ref e)) Q E s' := by
  obtain ⟨ob, t, he, _, hd⟩ := id hx.there
  refine wpAny_mono (Still.any (e := e) (still_leaving _ _) ⟨ob, he, _, hd, rfl⟩ (leave_newK (Q := fun _ s₂ => ∃ h', s₂ = { s' with heap := h' } ∧ RaisedN base outer e (.type cls) news h' ∧ g.UpToSlots h') K hx F N (fun h' R U => ⟨h', rfl, R, U⟩) hk)) ?_ (fun _ _ x => x)
  rintro _ _ ⟨⟨h', rfl, R, U⟩, hb⟩
  exact hQ h' R U hb
end
section
variable {prog : Program} {w : World} {A₀ : Around} {E : Value → Shared → Prop} {s' : Shared} {h₀ h : Heap} {outer : List Env} {L a e : Addr} {m : Str → Option Value} {name : Str} {scope : Scope} {cd : Value}
  {b₀ : Stmt} {suite : List Stmt} {pos np : Pos} {rest : List ExceptHandler} {Q : Flow → Shared → Prop} {news : List (Addr × Obj)}
  {p : Program} {loose : List Str} {mean : ExcName → Option Value} {mg mb : Str → Option Value}
/-- except TypeError: the exception lies in the ledger behind it -/
theorem caught_bare (K : Below A₀ h₀ outer h₀) (F : Fr h₀ L h m) (hsm : h.UpToSlots s'.heap) (R : RaisedN h₀ (envOf name scope L a cd :: outer) e (.type "TypeError") news s'.heap) (hb : BareAt e s'.heap)
    (T : TopRead p loose mg mb h₀)
    (k : ∀ h' oe, Bare oe → (∀ p ∈ news, p.1 ≠ e) → Fr h₀ L h' m → News h₀ L h' ((e, oe) :: news) →
      wpAny (model prog w) ((A₀.deeper (envOf name scope L a cd)).mark (some (.ref e))) (execs (b₀ :: suite) (envOf name scope L a cd)) Q E { s' with heap := h' })
    (h1 : ("TypeError" : Str) ∉ startupNames := by decide +kernel) (h2 : ("TypeError" : Str) ∉ loose := by decide +kernel) (h3 : ("TypeError" : Str) ∉ (recsOf p).map (·.name) := by decide +kernel) (h4 : ("TypeError" : Str) ∉ (litsOf p).map (·.1) := by decide +kernel) (h4c : ("TypeError" : Str) ∉ (clssOf p loose).map (·.name) := by decide +kernel) (hn : ("TypeError" : Str) ≠ "__name__" := by decide +kernel)
    (hk : scope.kind = .function := by rfl) (hx : (envOf name scope L a cd).kindOf "TypeError" = some .globalImplicit := by rfl) (hd : (("TypeError" : Str) == ("__debug__" : Str)) = false := by decide)
    (hE : PassesOwnAt (model prog w) ((A₀.deeper (envOf name scope L a cd)).mark (some (.ref e))) (A₀.deeper (envOf name scope L a cd)) (envOf name scope L a cd) E := by passes_own) :
    wpAny (model prog w) (A₀.deeper (envOf name scope L a cd)) (noteFrame (.ref e) (envOf name scope L a cd))
      (fun _ s₂ => wpAny (model prog w) (A₀.deeper (envOf name scope L a cd)) (setFlight (.ref e) none) (fun _ s₃ =>
        wpAny (model prog w) (A₀.deeper (envOf name scope L a cd)) (handleBy (.ref e) (envOf name scope L a cd) (.ExceptHandler (some (.Name "TypeError" np)) none (b₀ :: suite) pos :: rest)) Q E s₃) E s₂) E s' := by
  obtain ⟨B, a0, hB, hl, hfl⟩ := R
  have hLn : B.get? L = none := by
    obtain ⟨_, ⟨L', _, hf, hn', _⟩, _⟩ := hfl.2.2.1
    obtain rfl : L = L' := Option.some.inj hf
    exact hn'
  have hBe := hfl.2.1
  refine wpAny_mono (Still.any (e := e) (still_note _ _) hb (wpAny_looks_onW (Q := fun _ s₂ => ∃ h', s₂ = { s' with heap := h' } ∧ Heap.HeldW B _ e _ a0 L h' ∧ s'.heap.UpToSlots h') (Around.frames_deeper K.stack) rfl hfl (fun h' x y => ⟨h', rfl, x, y⟩))) ?_ (fun _ _ x => x)
  rintro _ _ ⟨⟨h4', rfl, hheld4, hsm4⟩, hb4⟩
  refine wpAny_mono (Still.any (e := e) (still_setFlight _ _) hb4 (wpAny_landsW (Q := fun _ s₂ => ∃ h', s₂ = { s' with heap := h' } ∧ Heap.FlyingW B _ e _ a0 h' ∧ h4'.UpToSlots h') hheld4 (fun h' x y => ⟨h', rfl, x, y⟩))) ?_ (fun _ _ x => x)
  rintro _ _ ⟨⟨h5', rfl, hfl5, hsm5⟩, hb5⟩
  have F5 := F.of_stays (flyingW_base hB hfl5).1 (hsm.trans (hsm4.trans hsm5))
  obtain ⟨ob, hob, hobc⟩ := hfl5.there
  refine wpAny_handleBy_builtin (X := "TypeError") (T := "TypeError") (b := true) PySem.F.isExc_TypeError PySem.F.notTuple_TypeError (by rw [isSubtype_type]; kernel_rfl) (ld_builtin_at F5 T.g (T.free "TypeError" h1 h2 h3 h4 h4c) T.b ((T.builtins "TypeError" hn).trans PyProof.Rows.Boot.«TypeError») ⟨rfl, ⟨ob, hob, hobc⟩, ?_⟩ hk hx hd)
  refine wpAny_mono (Still.any (e := e) (still_setFlight _ _) hb5 (lands_againW (Q := fun _ s₂ => ∃ h', s₂ = { s' with heap := h' } ∧ Heap.FlyingW B _ e _ a0 h' ∧ h5'.UpToSlots h') hfl5 (fun h' x y => ⟨h', rfl, x, y⟩))) ?_ (fun _ _ x => x)
  rintro _ _ ⟨⟨h6', rfl, hfl6, hsm6⟩, hb6⟩
  have F6 := F.of_stays (flyingW_base hB hfl6).1 (hsm.trans (hsm4.trans (hsm5.trans hsm6)))
  have h0e := (flyingW_base hB hfl6).2.1
  obtain ⟨oe, hoe, hbe⟩ := id hb6
  have hLe : e ≠ L := by
    rintro rfl
    obtain ⟨oL, es, ep, hoL, hdL, _⟩ := F6.ns
    rw [hoe] at hoL; cases hoL
    obtain ⟨vs, hd2, _⟩ := hbe
    rw [hdL] at hd2; cases hd2
  refine wpAny_passesOwnAt hE (k h6' oe hbe ?_ F6 ?_)
  · intro x hx z
    have := (hl x hx).1
    rw [z, hBe] at this; cases this
  · intro q hq
    rcases List.mem_cons.mp hq with rfl | hq
    · exact ⟨hoe, hLe, h0e⟩
    · exact ⟨hfl6.1 _ _ (hl q hq).1, (fun z => by have := (hl q hq).1; rw [z, hLn] at this; cases this), (hl q hq).2⟩
end
end Mine
namespace Mine
/-- from i to j all are barred -/
def Skips (ths : List (Option Ky)) (ks : List Ky) (i j : Nat) : Prop := ∀ k, i ≤ k → k < j → ∃ y, ths[k]? = some (some y) ∧ y ∈ ks
section
variable {w : World} {A : Around} {E : Value → Shared → Prop} {s : Shared} {p : Program} {loose : List Str} {mg mb : Str → Option Value}
theorem next_thing {I l x dx b S : Addr} {oI so : Obj} {items : List Value} {na : Nat} {ths : List (Option Ky)} {ks : List Ky} {h₀ : Heap} {L : Addr} {m : Str → Option Value} {news : List (Addr × Obj)} {G : Addr → Obj → Prop} {A₀ : Around} {env : Env} {i : Nat} {Q : Option Value → Shared → Prop}
    (hX₀ : (KF w).In h₀) (T₀ : TopRead p loose mg mb h₀) (B : Below A₀ h₀ [] h₀) (F : Fr h₀ L s.heap m) (N : News h₀ L s.heap ((I, oI) :: news)) (off : ∀ q ∈ news, q.1 ≠ I)
    (hA : A.frames = some [env]) (hf : env.frame = some L) (hke : env.scope.kind = .function) (hh : A.handled = none) (hd : A.depth + 3 < recursionLimit) (hu : A.units + 20 < cLine)
    (hI : IsLI oI l i) (hl : (l, listOf (List.toArray items) na) ∈ news) (hths : ThsIn G items ths) (hG : ∀ a o, G a o → (a, o) ∈ news) (h1 : (x, ffObj dx (.ref I) b) ∈ news) (h2 : (dx, dictOf [] 0) ∈ news) (h3 : (b, boundHas S) ∈ news) (h4 : (S, so) ∈ news) (h5 : SetK w G so ks) (hi : i ≤ items.length)
    (ok : ∀ j v y h' tk oI', i ≤ j → items[j]? = some v → ths[j]? = some (some y) → y ∉ ks → Skips ths ks i j → IsLI oI' l (j + 1) → h'.get? I = some oI' → (∀ b o, b ≠ I → s.heap.get? b = some o → h'.get? b = some o) → Q (some v) { s with heap := h', toks := tk })
    (bad : ∀ (j : Nat) e h' tk oI' g, i ≤ j → j < items.length → ths[j]? = some none → Skips ths ks i j → IsLI oI' l (j + 1) → Fr h₀ L g m → RaisedN h₀ [env] e (.type "TypeError") ((I, oI') :: news) h' → g.UpToSlots h' → BareAt e h' → E (.ref e) { s with heap := h', toks := tk })
    (stop : ∀ e h' tk, Skips ths ks i items.length → Raised [env] s.heap h' I e "StopIteration" → E (.ref e) { s with heap := h', toks := tk }) :
    wpAny (model PP w) A (callSpecial? (.ref x) "__next__") Q E s := by
  have hX := hX₀.keeps F.keep
  have T := T₀.keeps F.keep
  have hf43 := hX 43 _ (rfl : (KF w).lookup 43 = some _)
  have at' : ∀ q ∈ news, s.heap.get? q.1 = some q.2 := fun q hq => (N q (.tail _ hq)).1
  have a1 := at' _ h1
  have a2 := at' _ h2
  have a3 := at' _ h3
  have a4 := at' _ h4
  have al := at' _ hl
  have hoI := (N _ (.head _)).1
  have hI₀ := (N _ (.head _)).2.2
  have hcI := hI.1
  have hdI := hI.2
  obtain ⟨FG, BG, stG, _⟩ := groundX (R := fun _ _ => True) B F N hA hf hke
  have hfun : s.heap.FunFrames {} [env] := .cons (outer := []) (by rw [hke]; decide) hf F.ns (get_none_of_le (Nat.zero_le _)) trivial
  refine special_fn (f := 43) hX (ffInst a1 a2) (by kernel_rfl) (by kernel_rfl) ?_
  refine wpAny_call (codeAny_call_def (binds := [(("self" : Str), .ref x)]) (by omega) hf43 rfl T.nolimit (codeRec_of hX (by kernel_rfl)) rfl (BindsTo.of_eq rfl) (by decide) (locs rfl) ?_ rfl rfl rfl)
  intro h₁ hns hk
  dsimp only
  have hLn : s.heap.get? s.heap.objs.size = none := get_none_of_le (Nat.le_refl _)
  have hLs : s.heap.objs.size ≤ s.heap.objs.size := Nat.le_refl _
  have hLg : (hideAll s.heap (((I, oI) :: news).map (·.1))).objs.size ≤ s.heap.objs.size := Nat.le_of_eq (hideAll_size _ _)
  have hNL : ∀ q ∈ (I, oI) :: news, q.1 ≠ s.heap.objs.size := fun q hq => Nat.ne_of_lt (Heap.lt_size (N q hq).1)
  have hGn : ∀ q ∈ (I, oI) :: news, (hideAll s.heap (((I, oI) :: news).map (·.1))).get? q.1 = none := fun q hq => hideAll_none _ (List.mem_map_of_mem hq)
  have hGo : ∀ c o, (hideAll s.heap (((I, oI) :: news).map (·.1))).get? c = some o → s.heap.get? c = some o := fun c o e => of_hideAll _ e
  generalize hideAll s.heap (((I, oI) :: news).map (·.1)) = g at FG BG stG hLg hGn hGo
  generalize s.heap.objs.size = L' at hns hLn hLg hNL ⊢
  refine wpAny_execs_cons (wpAny_Assign_Name (Attribute_name ?_))
  refine wpAny_Name (wpAny_loadName_local rfl rfl hns (v := .ref x) rfl ?_)
  refine get_func (fun a o e => hk _ _ (hX a o e)) (hk _ _ a1) (hk _ _ a2) ?_
  refine wpAny_storeName_local rfl hns (fun h₂ hns₂ hs₂ => ?_) rfl
  dsimp only
  have hlI : l ≠ I := off _ hl
  have notL : ∀ b o, s.heap.get? b = some o → b ≠ L' := by rintro b o e rfl; rw [hLn] at e; cases e
  have k2 : ∀ b o, s.heap.get? b = some o → h₂.get? b = some o := fun b o e => hs₂.extBut b o (notL b o e) (hk b o e)
  refine wpAny_execs_cons (wpAny_While (codeAny_whileLoop (fun k s' => ∃ h' tk m' j oIj, s' = { s with heap := h', toks := tk } ∧ h'.Ns L' m' ∧ m' "self" = some (.ref x) ∧ m' "func" = some (.ref b) ∧ i ≤ j ∧ j ≤ items.length ∧ k = items.length - j ∧
    IsLI oIj l j ∧ h'.get? I = some oIj ∧ (∀ b o, b ≠ I → s.heap.get? b = some o → h'.get? b = some o) ∧ Skips ths ks i j) ?turn (items.length - i)
    ⟨h₂, _, _, i, oI, rfl, hns₂, rfl, rfl, Nat.le_refl _, hi, rfl, hI, k2 I _ hoI, fun b o _ e => k2 b o e, fun n h1 h2 => absurd h2 (Nat.not_lt.mpr h1)⟩))
  rintro k s' ⟨h', tk, m', j, oIj, rfl, hn, hm1, hm2, hij, hjl, rfl, hIj, hoIj, hkj, hbj⟩
  have hitj : h'.IsListIter I l j := hIj.at hoIj
  refine wpAny_passesOwn PassesOwn.leaving (isTrue_plain (wpAny_Constant_bool (wpAny_truthy_bool ?_)))
  rw [if_pos rfl]
  refine wpAny_passesOwn PassesOwn.leaving (wpAny_execs_cons (wpAny_Assign_Name (Call_ ?_)))
  have kk : ∀ {h'' : Heap}, (∀ b o, b ≠ I → s.heap.get? b = some o → h''.get? b = some o) → ∀ b o, h₀.get? b = some o → h''.get? b = some o := fun k b o e => k b o (by rintro rfl; rw [hI₀] at e; cases e) (F.keep b o e)
  refine next_name (hX₀.keeps (kk hkj)) (T₀.keeps (kk hkj)) rfl rfl rfl rfl ?_
  refine PyProof.Rows.callWith_builtin1 ?_
  refine args_cons (Attribute_name (wpAny_Name (wpAny_loadName_local rfl rfl hn hm1 ?_)))
  refine get_it (hX₀.keeps (kk hkj)) (hkj _ _ (off _ h1) a1) (hkj _ _ (off _ h2) a2) rfl ?_
  refine args_nil ?_
  have hl' : h'.IsList l items.toArray := ⟨_, hkj _ _ hlI al, rfl, na, rfl⟩
  refine next_open1 (hasNext_listiter hitj) ?_
  have hit' : ∀ tkx, Heap.IsListIter ({ s with heap := h', toks := tkx } : Shared).heap I l j := fun _ => hitj
  cases hx : items[j]? with
  | none =>
    have hje : j = items.length := by
      have := List.getElem?_eq_none_iff.mp hx
      omega
    subst hje
    refine listiter_end hh hitj hl' (by simp) fun h₃ h4' e hs hF => ?_
    have hn3 : h₃.Ns L' m' := hn.at' fun o e => hs.extBut L' o (by rintro rfl; rw [hLn] at hoI; cases hoI) e
    refine Raised.leave (s' := { s with heap := h4', toks := _ }) (fr := [env]) (h := s.heap) (h₂ := h') (base₀ := {}) (I := I) (X := "StopIteration") (Around.frames_deeper hA) rfl (by show ScopeKind.function ≠ ScopeKind.module; decide) hfun hoI hdI hoIj hIj.2 hLn hn hkj ⟨fun c o hc hco => ?_, .inl ⟨h₃, fun c o hb e => hs.extBut c o hb e, hF⟩⟩ fun h5 R5 => ?_
    · refine ⟨o.slots, hF.keeps c o (hs.extBut c o ?_ hco)⟩
      have key := fun (hfx : h'.FunFrames {} (_ :: [env])) => Heap.FunFrames.mem hfx hc
      obtain ⟨_, o', ho', hnf⟩ := key (.cons (by show ScopeKind.function ≠ ScopeKind.module; decide) rfl hn (get_none_of_le (Nat.zero_le _)) (hfun.of_keeps fun b o hb hnf => ⟨o, hkj b o (by rintro rfl; rw [hoI] at hb; cases hb; exact hnf _ hdI) hb, rfl⟩))
      rintro rfl
      rw [hoIj] at ho'; cases ho'
      exact hnf _ hIj.2
    · exact stop e h5 _ hbj R5
  | some v =>
    obtain ⟨th, hth, hin⟩ := hths.at' j v hx
    have hjlt : j < items.length := (List.getElem?_eq_some_iff.mp hx).1
    refine listiter_item hitj hl' (x := v) (by simp [hx]) fun h3' hit3 hs3 => ?_
    obtain ⟨oI3, hoI3, hcI3, hdI3⟩ := id hit3
    have hk3 : ∀ b o, b ≠ I → s.heap.get? b = some o → h3'.get? b = some o := fun c o q e => hs3.extBut c o q (hkj c o q e)
    have hn2 : h3'.Ns L' m' := hn.at' fun o e => hs3.extBut L' o (by rintro rfl; rw [hLn] at hoI; cases hoI) e
    refine ⟨_, rfl, wpAny_storeName_local rfl hn2 (fun h₃ hn₃ hs₃ => ?_) rfl⟩
    dsimp only
    have hk03 : ∀ b o, b ≠ I → s.heap.get? b = some o → h₃.get? b = some o := fun c o q e => hs₃.extBut c o (notL c o e) (hk3 c o q e)
    have hoI4 : h₃.get? I = some oI3 := hs₃.extBut I _ (notL I _ hoI) hoI3
    have hm1' : (fun y => if y = ("item" : Str) then some v else m' y) "self" = some (.ref x) := by show (if ("self" : Str) = "item" then _ else _) = _; rw [if_neg (by decide)]; exact hm1
    have hm2' : (fun y => if y = ("item" : Str) then some v else m' y) "func" = some (.ref b) := by show (if ("func" : Str) = "item" then _ else _) = _; rw [if_neg (by decide)]; exact hm2
    have hm3' : (fun y => if y = ("item" : Str) then some v else m' y) "item" = some v := by show (if ("item" : Str) = "item" then _ else _) = _; rw [if_pos rfl]
    refine wpAny_execs_cons (wpAny_If (isTrue_or (wpAny_isTrue_Compare1 (wpAny_Name (wpAny_loadName_local rfl rfl hn₃ hm2' (wpAny_Constant_none (wpAny_is_other (by rfl) (by simp) (wpAny_truthy_bool ?_))))))))
    rw [if_neg Bool.false_ne_true]
    refine isTrue_or (wpAny_isTrue_Compare1 (wpAny_Name (wpAny_loadName_local rfl rfl hn₃ hm2' (bool_name (hX₀.keeps (kk hk03)) (T₀.keeps (kk hk03)) rfl rfl rfl rfl (wpAny_is_other (by rfl) (by simp) (wpAny_truthy_bool ?_))))))
    rw [if_neg Bool.false_ne_true]
    refine isTrue_or_nil ?_
    rw [if_neg Bool.false_ne_true]
    refine wpAny_execs_cons (wpAny_If (isTrue_not (isTrue_plain (Call_ (wpAny_Name (wpAny_loadName_local rfl rfl hn₃ hm2' ?_))))))
    refine callWith_bm1 (S := S) (args_cons (wpAny_Name (wpAny_loadName_local rfl rfl hn₃ hm3' (args_nil ⟨hk03 _ _ (off _ h3) a3, ?_⟩))))
    have hG3 : ∀ a o, G a o → h₃.get? a = some o := fun a o ga => hk03 _ _ (off _ (hG a o ga)) (at' _ (hG a o ga))
    refine call_hasK (th := th) (so := so) (ks := ks) hh (hk03 _ _ (off _ h3) a3) (hin.mono hG3) (hk03 _ _ (off _ h4) a4) (h5.mono hG3) ?_ (fun y tk4 ey => ?_) (fun en h4' tk4 e hx4 => ?_)
    · first | (show A.units + 3 < cLine; omega) | (simp; omega)
    · subst ey
      refine wpAny_truthy_bool ?_
      by_cases hy : y ∈ ks
      · rw [decide_eq_true hy, if_neg (by decide)]
        refine wpAny_execs_nil ?_
        dsimp only
        refine wpAny_execs_nil ?_
        dsimp only
        refine wpAny_execs_nil ?_
        dsimp only
        refine ⟨items.length - (j + 1), by omega, h₃, _, _, j + 1, oI3, rfl, hn₃, hm1', hm2', by omega, hjlt, rfl, ⟨hcI3, hdI3⟩, hoI4, hk03, fun n b1 b2 => ?_⟩
        by_cases hnj : n = j
        · subst hnj; exact ⟨y, hth, hy⟩
        · exact hbj n b1 (by omega)
      · rw [decide_eq_false hy, if_pos (by decide)]
        refine wpAny_execs_cons (wpAny_Return_some (wpAny_Name (wpAny_loadName_local rfl rfl hn₃ hm3' ?_)))
        dsimp only
        exact ok j v y h₃ _ oI3 hij hx hth hy hbj ⟨hcI3, hdI3⟩ hoI4 hk03
    · subst en
      have F' : Fr g L' h₃ (fun y => if y = ("item" : Str) then some v else m' y) := ⟨hn₃, fun c o e => hk03 c o (by rintro rfl; rw [hGn _ (.head _)] at e; cases e) (hGo c o e), hLg⟩
      have N' : News g L' h₃ ((I, oI3) :: news) := fun q hq => by
        rcases List.mem_cons.mp hq with rfl | hq
        · exact ⟨hoI4, hNL (I, oI) (.head _), hGn (I, oI) (.head _)⟩
        · exact ⟨hk03 _ _ (off q hq) (at' q hq), hNL q (.tail _ hq), hGn q (.tail _ hq)⟩
      refine leave_bare BG hx4 F' N' fun h6 R6 U6 V6 => ?_
      exact bad j e h6 tk4 oI3 g hij hjlt hth hbj ⟨hcI3, hdI3⟩ FG R6 U6 V6
end
end Mine
namespace Mine
theorem sub_te_stop : isSubtype (.type "TypeError") (.type "StopIteration") = pure false := by rw [isSubtype_type]; kernel_rfl
section
variable {w : World} {A : Around} {E : Value → Shared → Prop} {s : Shared} {p : Program} {loose : List Str} {mg mb : Str → Option Value}
/-- next(left, None) -/
theorem next_def_N {I l x dx b S : Addr} {oI so : Obj} {items : List Value} {na : Nat} {ths : List (Option Ky)} {ks : List Ky} {h₀ : Heap} {L : Addr} {m : Str → Option Value} {own : List (Addr × Obj)} {G : Addr → Obj → Prop} {A₀ : Around} {env : Env} {i : Nat} {d : Value} {Q : Value → Shared → Prop}
    (F : Fr h₀ L s.heap m) (N : News h₀ L s.heap ((I, oI) :: own)) (off : ∀ q ∈ own, q.1 ≠ I) (hX₀ : (KF w).In h₀) (T₀ : TopRead p loose mg mb h₀) (B : Below A₀ h₀ [] h₀)
    (hA : A.frames = some [env]) (hf : env.frame = some L) (hke : env.scope.kind = .function) (hh : A.handled = none) (hd : A.depth + 3 < recursionLimit) (hu : A.units + 30 < cLine)
    (hI : IsLI oI l i) (hl : (l, listOf (List.toArray items) na) ∈ own) (hths : ThsIn G items ths) (hG : ∀ a o, G a o → (a, o) ∈ own) (h1 : (x, ffObj dx (.ref I) b) ∈ own) (h2 : (dx, dictOf [] 0) ∈ own) (h3 : (b, boundHas S) ∈ own) (h4 : (S, so) ∈ own) (h5 : SetK w G so ks) (hi : i ≤ items.length)
    (ok : ∀ j v y h' tk oI', i ≤ j → items[j]? = some v → ths[j]? = some (some y) → y ∉ ks → Skips ths ks i j → IsLI oI' l (j + 1) → Fr h₀ L h' m → News h₀ L h' ((I, oI') :: own) → Q v { s with heap := h', toks := tk })
    (bad : ∀ (j : Nat) e h' tk oI' g, i ≤ j → j < items.length → ths[j]? = some none → Skips ths ks i j → IsLI oI' l (j + 1) → Fr h₀ L g m → RaisedN h₀ [env] e (.type "TypeError") ((I, oI') :: own) h' → g.UpToSlots h' → BareAt e h' → E (.ref e) { s with heap := h', toks := tk })
    (stop : ∀ h' tk, Skips ths ks i items.length → Fr h₀ L h' m → News h₀ L h' own → Q d { s with heap := h', toks := tk }) :
    wpAny (model PP w) A (call (.builtin "next") [.ref x, d]) Q E s := by
  have hmI := N _ List.mem_cons_self
  have hLI : L ≠ I := Ne.symm hmI.2.1
  have hnotI : ∀ b o, h₀.get? b = some o → b ≠ I := by rintro b o e rfl; rw [hmI.2.2] at e; cases e
  have a1 := (N _ (.tail _ h1)).1
  have a2 := (N _ (.tail _ h2)).1
  refine next_open2 ⟨_, (ffInst a1 a2).type.andThen (looks_findIn (r := some (.ref 43)) (hX₀.keeps F.keep) (by kernel_rfl))⟩ ?_
  unfold pyNext
  refine wpAny_bind (wpAny_attempt (next_thing hX₀ T₀ B F N off (by rw [Around.in1_frames]; exact hA) hf hke hh (by show A.depth + 3 < recursionLimit; exact hd) (by show A.units + 1 + 20 < cLine; omega) hI hl hths hG h1 h2 h3 h4 h5 hi ?_ ?_ ?_))
  · intro j v y h' tk oI' b1 b2 b3 b4 b5 b6 b7 b8
    refine wpAny_pure (ok j v y h' tk oI' b1 b2 b3 b4 b5 b6 ⟨F.ns.at' fun o e => b8 L o hLI e, fun b o e => b8 b o (hnotI b o e) (F.keep b o e), F.above⟩ fun q hq => ?_)
    rcases List.mem_cons.mp hq with rfl | hq
    · exact ⟨b7, hmI.2⟩
    · exact ⟨b8 _ _ (off q hq) (N q (List.mem_cons_of_mem _ hq)).1, (N q (List.mem_cons_of_mem _ hq)).2⟩
  · intro j e h' tk oI' g b1 b2 b3 b4 b5 b6 R U V
    have hT : Shared.TypeIs { s with heap := h', toks := tk } (.ref e) "TypeError" := by
      obtain ⟨B', a0, _, _, hfl⟩ := R
      obtain ⟨ob, hob, hoc⟩ := hfl.there
      exact ⟨ob, hob, hoc⟩
    refine wpAny_bind (wpAny_isInstance (T := "TypeError") (b := false) (s := { s with heap := h', toks := tk }) hT sub_te_stop ?_)
    exact wpAny_throw (bad j e h' tk oI' g b1 b2 b3 b4 b5 b6 R U V)
  · intro e h' tk b1 R
    refine wpAny_bind (wpAny_isInstance (T := "StopIteration") (b := true) (s := { s with heap := h', toks := tk }) R.isExc PySem.isSubtype_stop ?_)
    refine wpAny_pure (stop h' tk b1 (Fr.raised F hf hmI.2.2 R) fun q hq => ?_)
    have hq' := N q (List.mem_cons_of_mem _ hq)
    refine ⟨R.keeps ?_ (off q hq) hq'.1, hq'.2⟩
    simp only [framesOf, List.filterMap_cons, hf, List.filterMap_nil, List.mem_singleton]
    exact hq'.2.1
end
/-- what is told of the first i items -/
def dueL (mk : Value) (ks : List Ky) : List Value → List (Option Ky) → List Value
  | v :: vs, some y :: ths => if y ∈ ks then dueL mk ks vs ths else v :: dueL mk ks vs ths
  | _ :: vs, none :: ths => mk :: dueL mk ks vs ths
  | _, _ => []
theorem dueL_skip {mk : Value} {ks : List Ky} : ∀ (vs : List Value) (ths : List (Option Ky)), (∀ (k : Nat) th, ths[k]? = some th → ∃ y, th = some y ∧ y ∈ ks) → dueL mk ks vs ths = []
  | [], _, _ => by unfold dueL; rfl
  | _ :: _, [], _ => by unfold dueL; rfl
  | v :: vs, th :: ths, h => by
    obtain ⟨y, rfl, hy⟩ := h 0 th rfl
    unfold dueL
    rw [if_pos hy]
    exact dueL_skip vs ths fun k th hk => h (k + 1) th (by simpa using hk)
theorem dueL_app {mk : Value} {ks : List Ky} : ∀ (vs us : List Value) (ths uts : List (Option Ky)), vs.length = ths.length → dueL mk ks (vs ++ us) (ths ++ uts) = dueL mk ks vs ths ++ dueL mk ks us uts
  | [], us, [], uts, _ => by simp [dueL]
  | v :: vs, us, some y :: ths, uts, h => by
    have ih := dueL_app (mk := mk) (ks := ks) vs us ths uts (by simpa using h)
    simp only [List.cons_append]
    rw [dueL, dueL, ih]
    split <;> rfl
  | v :: vs, us, none :: ths, uts, h => by
    have ih := dueL_app (mk := mk) (ks := ks) vs us ths uts (by simpa using h)
    simp only [List.cons_append]
    rw [dueL, dueL, ih]; rfl
def dueN (mk : Value) (ks : List Ky) (vs : List Value) (ths : List (Option Ky)) (i : Nat) : List Value := dueL mk ks (vs.take i) (ths.take i)
theorem dueN_to {mk : Value} {ks : List Ky} {vs : List Value} {ths : List (Option Ky)} (hl : vs.length = ths.length) {i j : Nat} (hij : i ≤ j) (hj : j ≤ vs.length) (hs : Skips ths ks i j) : dueN mk ks vs ths j = dueN mk ks vs ths i := by
  unfold dueN
  have e1 : vs.take j = vs.take i ++ (vs.drop i).take (j - i) := by
    rw [show j = i + (j - i) from by omega, List.take_add]; simp
  have e2 : ths.take j = ths.take i ++ (ths.drop i).take (j - i) := by
    rw [show j = i + (j - i) from by omega, List.take_add]; simp
  suffices e3 : dueL mk ks ((vs.drop i).take (j - i)) ((ths.drop i).take (j - i)) = [] by
    rw [e1, e2, dueL_app _ _ _ _ (by simp [hl]), e3, List.append_nil]
  refine dueL_skip _ _ ?_
  intro k th hk
  have hlt : k < j - i := by
    have := (List.getElem?_eq_some_iff.mp hk).1
    rw [List.length_take] at this; omega
  rw [List.getElem?_take_of_lt hlt, List.getElem?_drop] at hk
  obtain ⟨y, a, b⟩ := hs (i + k) (by omega) (by omega)
  rw [hk] at a
  cases a
  exact ⟨y, rfl, b⟩
theorem dueN_key {mk : Value} {ks : List Ky} {vs : List Value} {ths : List (Option Ky)} (hl : vs.length = ths.length) {i j : Nat} {v : Value} {y : Ky} (hij : i ≤ j) (hv : vs[j]? = some v) (hth : ths[j]? = some (some y)) (hy : y ∉ ks) (hs : Skips ths ks i j) : dueN mk ks vs ths (j + 1) = dueN mk ks vs ths i ++ [v] := by
  have hj : j < vs.length := (List.getElem?_eq_some_iff.mp hv).1
  rw [← dueN_to hl hij (Nat.le_of_lt hj) hs]
  unfold dueN
  rw [List.take_add_one, List.take_add_one, hv, hth, dueL_app _ _ _ _ (by simp [hl])]
  simp [dueL, hy]
theorem dueN_lst {mk : Value} {ks : List Ky} {vs : List Value} {ths : List (Option Ky)} (hl : vs.length = ths.length) {i j : Nat} (hij : i ≤ j) (hj : j < vs.length) (hth : ths[j]? = some none) (hs : Skips ths ks i j) : dueN mk ks vs ths (j + 1) = dueN mk ks vs ths i ++ [mk] := by
  rw [← dueN_to hl hij (Nat.le_of_lt hj) hs]
  unfold dueN
  rw [List.take_add_one, List.take_add_one, hth, List.getElem?_eq_getElem hj, dueL_app _ _ _ _ (by simp [hl])]
  simp [dueL]
end Mine
namespace Mine
def keysOf (pt : List (Option Ky)) : List Ky := pt.filterMap id
theorem keysOf_mem {pt : List (Option Ky)} {y : Ky} : y ∈ keysOf pt ↔ some y ∈ pt := by
  unfold keysOf
  rw [List.mem_filterMap]
  constructor
  · rintro ⟨a, ha, e⟩
    cases e; exact ha
  · intro h
    exact ⟨some y, h, rfl⟩
theorem Skips.of {ths : List (Option Ky)} {ks ks' : List Ky} {i j : Nat} (h : Skips ths ks i j) (e : ∀ y, y ∈ ks ↔ y ∈ ks') : Skips ths ks' i j := fun k a b => by
  obtain ⟨y, c, d⟩ := h k a b
  exact ⟨y, c, (e y).mp d⟩
/-- the filter's objects in the ledger -/
structure FFIn (w : World) (G : Addr → Obj → Prop) (pt : List (Option Ky)) (own : List (Addr × Obj)) (I x dx b S : Addr) (so : Obj) (ks : List Ky) : Prop where
  x : (x, ffObj dx (.ref I) b) ∈ own
  d : (dx, dictOf [] 0) ∈ own
  b : (b, boundHas S) ∈ own
  s : (S, so) ∈ own
  k : SetK w G so ks
  m : ∀ y, y ∈ ks ↔ some y ∈ pt
theorem FFIn.mono {w : World} {G : Addr → Obj → Prop} {pt : List (Option Ky)} {own own' : List (Addr × Obj)} {I x dx b S : Addr} {so : Obj} {ks : List Ky} (h : FFIn w G pt own I x dx b S so ks) (k : ∀ p ∈ own, p ∈ own') : FFIn w G pt own' I x dx b S so ks := ⟨k _ h.x, k _ h.d, k _ h.b, k _ h.s, h.k, h.m⟩
theorem FFIn.eqv {w : World} {G : Addr → Obj → Prop} {pt : List (Option Ky)} {own : List (Addr × Obj)} {I x dx b S : Addr} {so : Obj} {ks : List Ky} (h : FFIn w G pt own I x dx b S so ks) : ∀ y, y ∈ ks ↔ y ∈ keysOf pt := fun y => by rw [h.m, keysOf_mem]
structure Names3 (m : Str → Option Value) (TD MK I PL RW : Addr) : Prop where
  told : m "told" = some (.ref TD)
  mark : m "mark" = some (.ref MK)
  source : m "source" = some (.ref I)
  plain : m "plain" = some (.ref PL)
  row : m "row" = some (.ref RW)
inductive J3 (w : World) (G : Addr → Obj → Prop) (items : List Value) (ths pt : List (Option Ky)) (base : List (Addr × Obj)) (RI I TD MK PL RW : Addr) : Nat → (Str → Option Value) → List (Addr × Obj) → Prop
  | mk {n k i tn : Nat} {m : Str → Option Value} {oI so : Obj} {own : List (Addr × Obj)} {x dx b S : Addr} {ks : List Ky} : n = items.length + 1 - k → k ≤ i → i ≤ items.length → m "left" = some (.ref x) → Names3 m TD MK I PL RW → OwnOff own [RI, I, TD] → IsLI oI RW i → (∀ p ∈ base, p ∈ own) → FFIn w G pt own I x dx b S so ks →
      J3 w G items ths pt base RI I TD MK PL RW n m ((RI, rangeIterObj (k : Int) ((items.length : Int) + 1 - k) 1) :: (I, oI) :: (TD, listOf (List.toArray (dueN (.ref MK) (keysOf pt) items ths i)) tn) :: own)
section
variable {prog : Program} {w : World} {A : Around} {E : Value → Shared → Prop} {s : Shared} {h₀ : Heap} {L : Addr} {m : Str → Option Value}
/-- behind the loop -/
def Mid2 (h₀ : Heap) (L : Addr) (s : Shared) (base : List (Addr × Obj)) (TD MK I PL RW : Addr) (ts : List Value) (s' : Shared) : Prop :=
  ∃ h' tk m' tn own', s' = { s with heap := h', toks := tk } ∧ Fr h₀ L h' m' ∧ News h₀ L h' own' ∧ Names3 m' TD MK I PL RW ∧ (TD, listOf (List.toArray ts) tn) ∈ own' ∧ (∀ p ∈ base, p ∈ own')
theorem law3_for {env : Env} {x : Str} {body : List Stmt} {Q : Flow → Shared → Prop} {G : Addr → Obj → Prop} {items : List Value} {ths pt : List (Option Ky)} {base all : List (Addr × Obj)} {RI I TD MK PL RW : Addr} {nn : Int} {oI so : Obj} {fx dx b S : Addr} {ks : List Ky} {tn : Nat}
    (F : Fr h₀ L s.heap m) (N : News h₀ L s.heap all) (hRI : (RI, rangeIterObj 0 (Builtin.Range.rangeSize 0 nn 1) 1) ∈ all) (hnn : nn = (items.length : Int) + 1) (hI : (I, oI) ∈ all) (hTD : (TD, listOf #[] tn) ∈ all) (hh : A.handled = none)
    (hm : m "left" = some (.ref fx)) (hn : Names3 m TD MK I PL RW) (hIl : IsLI oI RW 0) (hff : FFIn w G pt all I fx dx b S so ks) (hbase : ∀ p ∈ base, p ∈ all)
    (nb : ∀ p ∈ base, p.1 ≠ RI ∧ p.1 ≠ I ∧ p.1 ≠ TD) (nf : (fx ≠ RI ∧ fx ≠ I ∧ fx ≠ TD) ∧ (dx ≠ RI ∧ dx ≠ I ∧ dx ≠ TD) ∧ (b ≠ RI ∧ b ≠ I ∧ b ≠ TD) ∧ (S ≠ RI ∧ S ≠ I ∧ S ≠ TD)) (ne : RI ≠ I ∧ RI ≠ TD ∧ I ≠ TD)
    (turn : ∀ (k i tn : Nat) (m : Str → Option Value) (oI so : Obj) (own : List (Addr × Obj)) (fx dx b S : Addr) (ks : List Ky) (t : Tok) (h : Heap) (tk : Nat), k ≤ i → i ≤ items.length → m "left" = some (.ref fx) → Names3 m TD MK I PL RW → OwnOff own [RI, I, TD] → IsLI oI RW i → (∀ p ∈ base, p ∈ own) → FFIn w G pt own I fx dx b S so ks → Fr h₀ L h m →
      News h₀ L h ((RI, rangeIterObj ((k : Int) + 1) ((items.length : Int) + 1 - k - 1) 1) :: (I, oI) :: (TD, listOf (List.toArray (dueN (.ref MK) (keysOf pt) items ths i)) tn) :: own) →
      wpAny (model prog w) A (storeName env x (.int k t)) (fun _ s₃ => wpAny (model prog w) A (execs body env) (FPost h₀ L (J3 w G items ths pt base RI I TD MK PL RW) (items.length + 1 - k) s Q) E s₃) E { s with heap := h, toks := tk }) :
    ForAt prog w A E h₀ L env x body Q (.ref RI) s := by
  subst hnn
  have hsz : Builtin.Range.rangeSize 0 ((items.length : Int) + 1) 1 = (items.length : Int) + 1 - ((0 : Nat) : Int) := by rw [rangeSize_one]; split <;> omega
  rw [hsz] at hRI
  have hs : ∀ q ∈ [(RI, rangeIterObj ((0 : Nat) : Int) ((items.length : Int) + 1 - ((0 : Nat) : Int)) 1), (I, oI), (TD, listOf (List.toArray (dueN (.ref MK) (keysOf pt) items ths 0)) tn)], q ∈ all := by
    intro q hq
    have e0 : dueN (.ref MK) (keysOf pt) items ths 0 = [] := by unfold dueN; simp [dueL]
    rw [e0] at hq
    simp only [List.mem_cons, List.not_mem_nil, or_false] at hq
    rcases hq with rfl | rfl | rfl <;> assumption
  have N2 := news_back N hs
  have mem : ∀ p : Addr × Obj, p ∈ all → p.1 ≠ RI → p.1 ≠ I → p.1 ≠ TD → p ∈ beside (List.map (·.1) [(RI, rangeIterObj ((0 : Nat) : Int) ((items.length : Int) + 1 - ((0 : Nat) : Int)) 1), (I, oI), (TD, listOf (List.toArray (dueN (.ref MK) (keysOf pt) items ths 0)) tn)]) all := fun p hp a b c => by
    refine List.mem_filter.mpr ⟨hp, ?_⟩
    rw [decide_eq_true_eq]
    simp only [List.map_cons, List.map_nil, List.mem_cons, List.not_mem_nil, or_false, not_or]
    exact ⟨a, b, c⟩
  refine ⟨J3 w G items ths pt base RI I TD MK PL RW, items.length + 1, m, _, F, N2, ?_, ?_⟩
  · refine J3.mk (k := 0) (i := 0) (x := fx) (dx := dx) (b := b) (S := S) (so := so) (ks := ks) rfl (Nat.le_refl _) (Nat.zero_le _) hm hn (beside_off _) hIl (fun p hp => mem p (hbase p hp) (nb p hp).1 (nb p hp).2.1 (nb p hp).2.2) ⟨mem _ hff.x nf.1.1 nf.1.2.1 nf.1.2.2, mem _ hff.d nf.2.1.1 nf.2.1.2.1 nf.2.1.2.2, mem _ hff.b nf.2.2.1.1 nf.2.2.1.2.1 nf.2.2.1.2.2, mem _ hff.s nf.2.2.2.1 nf.2.2.2.2.1 nf.2.2.2.2.2, hff.k, hff.m⟩
  · intro n m' news h tk J F' N'
    cases J with
    | mk a1 a2 a3 a4 a5 a6 a7 a8 a9 =>
      rename_i k i tn oI so own x' dx' b' S' ks'
      subst a1
      refine next_range_N (pre := []) F' N' ⟨(fun _ hp => nomatch hp), ?_⟩ hh ?_ ?_
      · intro p hp
        simp only [List.mem_cons] at hp
        rcases hp with rfl | rfl | hp
        · exact Ne.symm ne.1
        · exact Ne.symm ne.2.1
        · exact a6 p hp RI (.head _)
      · intro hpos h' tk' t F'' N''
        exact turn k i tn m' oI so own x' dx' b' S' ks' t h' tk' a2 a3 a4 a5 a6 a7 a8 a9 F'' N''
      · intro hle
        exfalso
        omega
/-- a turn's end -/
theorem law3_turn_end {Q : Flow → Shared → Prop} {G : Addr → Obj → Prop} {items : List Value} {ths pt : List (Option Ky)} {base all : List (Addr × Obj)} {RI I TD MK PL RW : Addr} {oI so : Obj} {fx dx b S : Addr} {ks : List Ky} {tn k i j tk : Nat} {h' : Heap} {m' : Str → Option Value} {ts : List Value}
    (F : Fr h₀ L h' m') (N : News h₀ L h' all) (hRI : (RI, rangeIterObj ((k : Int) + 1) ((items.length : Int) + 1 - k - 1) 1) ∈ all) (hI : (I, oI) ∈ all) (hTD : (TD, listOf (List.toArray ts) tn) ∈ all) (hts : ts = dueN (.ref MK) (keysOf pt) items ths (j + 1)) (hki : k ≤ i) (hij : i ≤ j) (hj : j < items.length)
    (hm : m' "left" = some (.ref fx)) (hn : Names3 m' TD MK I PL RW) (hIl : IsLI oI RW (j + 1)) (hff : FFIn w G pt all I fx dx b S so ks) (hbase : ∀ p ∈ base, p ∈ all)
    (nb : ∀ p ∈ base, p.1 ≠ RI ∧ p.1 ≠ I ∧ p.1 ≠ TD) (nf : (fx ≠ RI ∧ fx ≠ I ∧ fx ≠ TD) ∧ (dx ≠ RI ∧ dx ≠ I ∧ dx ≠ TD) ∧ (b ≠ RI ∧ b ≠ I ∧ b ≠ TD) ∧ (S ≠ RI ∧ S ≠ I ∧ S ≠ TD)) :
    FPost h₀ L (J3 w G items ths pt base RI I TD MK PL RW) (items.length + 1 - k) s Q .next { s with heap := h', toks := tk } := by
  subst hts
  have c1 : (k : Int) + 1 = ((k + 1 : Nat) : Int) := by omega
  have c2 : (items.length : Int) + 1 - k - 1 = (items.length : Int) + 1 - ((k + 1 : Nat) : Int) := by omega
  rw [c2, c1] at hRI
  have hs : ∀ q ∈ [(RI, rangeIterObj ((k + 1 : Nat) : Int) ((items.length : Int) + 1 - ((k + 1 : Nat) : Int)) 1), (I, oI), (TD, listOf (List.toArray (dueN (.ref MK) (keysOf pt) items ths (j + 1))) tn)], q ∈ all := by
    intro q hq
    simp only [List.mem_cons, List.not_mem_nil, or_false] at hq
    rcases hq with rfl | rfl | rfl <;> assumption
  have N2 := news_back N hs
  have mem : ∀ p : Addr × Obj, p ∈ all → p.1 ≠ RI → p.1 ≠ I → p.1 ≠ TD → p ∈ beside (List.map (·.1) [(RI, rangeIterObj ((k + 1 : Nat) : Int) ((items.length : Int) + 1 - ((k + 1 : Nat) : Int)) 1), (I, oI), (TD, listOf (List.toArray (dueN (.ref MK) (keysOf pt) items ths (j + 1))) tn)]) all := fun p hp a b c => by
    refine List.mem_filter.mpr ⟨hp, ?_⟩
    rw [decide_eq_true_eq]
    simp only [List.map_cons, List.map_nil, List.mem_cons, List.not_mem_nil, or_false, not_or]
    exact ⟨a, b, c⟩
  refine ⟨items.length + 1 - (k + 1), m', _, h', tk, by omega, rfl, F, N2, ?_⟩
  exact J3.mk (k := k + 1) (i := j + 1) (x := fx) (dx := dx) (b := b) (S := S) (so := so) (ks := ks) rfl (by omega) hj hm hn (beside_off _) hIl (fun p hp => mem p (hbase p hp) (nb p hp).1 (nb p hp).2.1 (nb p hp).2.2) ⟨mem _ hff.x nf.1.1 nf.1.2.1 nf.1.2.2, mem _ hff.d nf.2.1.1 nf.2.1.2.1 nf.2.1.2.2, mem _ hff.b nf.2.2.1.1 nf.2.2.1.2.1 nf.2.2.1.2.2, mem _ hff.s nf.2.2.2.1 nf.2.2.2.2.1 nf.2.2.2.2.2, hff.k, hff.m⟩
end
section
variable {w : World} {A : Around} {E : Value → Shared → Prop} {s : Shared} {p : Program} {loose : List Str} {mg mb : Str → Option Value}
/-- next(left, None), the ledger as a turn has it -/
theorem next_turn {I RW x dx b S TD RI : Addr} {oI so oTD oRI : Obj} {items : List Value} {na : Nat} {ths pt : List (Option Ky)} {ks : List Ky} {h₀ : Heap} {L : Addr} {m : Str → Option Value} {own : List (Addr × Obj)} {G : Addr → Obj → Prop} {A₀ : Around} {env : Env} {i : Nat} {d : Value} {Q : Value → Shared → Prop}
    (F : Fr h₀ L s.heap m) (N : News h₀ L s.heap ((RI, oRI) :: (I, oI) :: (TD, oTD) :: own)) (nI : RI ≠ I ∧ TD ≠ I) (off : OwnOff own [RI, I, TD]) (hX₀ : (KF w).In h₀) (T₀ : TopRead p loose mg mb h₀) (B : Below A₀ h₀ [] h₀)
    (hA : A.frames = some [env]) (hf : env.frame = some L) (hke : env.scope.kind = .function) (hh : A.handled = none) (hd : A.depth + 3 < recursionLimit) (hu : A.units + 30 < cLine)
    (hI : IsLI oI RW i) (hl : (RW, listOf (List.toArray items) na) ∈ own) (hths : ThsIn G items ths) (hG : ∀ a o, G a o → (a, o) ∈ own) (ff : FFIn w G pt own I x dx b S so ks) (hi : i ≤ items.length)
    (ok : ∀ j v y h' tk oI', i ≤ j → j < items.length → items[j]? = some v → ths[j]? = some (some y) → y ∉ keysOf pt → Skips ths (keysOf pt) i j → IsLI oI' RW (j + 1) → Fr h₀ L h' m → News h₀ L h' ((RI, oRI) :: (I, oI') :: (TD, oTD) :: own) → Q v { s with heap := h', toks := tk })
    (bad : ∀ (j : Nat) e h' tk oI' g, i ≤ j → j < items.length → ths[j]? = some none → Skips ths (keysOf pt) i j → IsLI oI' RW (j + 1) → Fr h₀ L g m → RaisedN h₀ [env] e (.type "TypeError") ((RI, oRI) :: (I, oI') :: (TD, oTD) :: own) h' → g.UpToSlots h' → BareAt e h' → E (.ref e) { s with heap := h', toks := tk })
    (stop : ∀ h' tk, Skips ths (keysOf pt) i items.length → Fr h₀ L h' m → News h₀ L h' ((RI, oRI) :: (TD, oTD) :: own) → Q d { s with heap := h', toks := tk }) :
    wpAny (model PP w) A (call (.builtin "next") [.ref x, d]) Q E s := by
  have sub : ∀ q ∈ own, q ∈ (RI, oRI) :: (TD, oTD) :: own := fun q hq => .tail _ (.tail _ hq)
  have swap : ∀ {h' : Heap} {o : Obj}, News h₀ L h' ((I, o) :: (RI, oRI) :: (TD, oTD) :: own) → News h₀ L h' ((RI, oRI) :: (I, o) :: (TD, oTD) :: own) := fun N q hq => N q (by
    simp only [List.mem_cons] at hq ⊢
    rcases hq with h | h | h | h <;> simp [h])
  have N' : News h₀ L s.heap ((I, oI) :: (RI, oRI) :: (TD, oTD) :: own) := fun q hq => N q (by
    simp only [List.mem_cons] at hq ⊢
    rcases hq with h | h | h | h <;> simp [h])
  refine next_def_N F N' ?_ hX₀ T₀ B hA hf hke hh hd hu hI (sub _ hl) hths (fun a o g => sub _ (hG a o g)) (sub _ ff.x) (sub _ ff.d) (sub _ ff.b) (sub _ ff.s) ff.k hi ?_ ?_ ?_
  · intro q hq
    simp only [List.mem_cons] at hq
    rcases hq with rfl | rfl | hq
    · exact nI.1
    · exact nI.2
    · exact off q hq I (.tail _ (.head _))
  · intro j v y h' tk oI' b1 b2 b3 b4 b5 b6 F' N''
    exact ok j v y h' tk oI' b1 (List.getElem?_eq_some_iff.mp b2).1 b2 b3 (fun hy => b4 ((ff.eqv y).mpr hy)) (b5.of ff.eqv) b6 F' (swap N'')
  · intro j e h' tk oI' g b1 b2 b3 b4 b5 Fg R U V
    obtain ⟨B', a0, r1, r2, r3⟩ := R
    refine bad j e h' tk oI' g b1 b2 b3 (b4.of ff.eqv) b5 Fg ⟨B', a0, r1, fun q hq => r2 q ?_, r3⟩ U V
    simp only [List.mem_cons] at hq ⊢
    rcases hq with h | h | h | h <;> simp [h]
  · intro h' tk b1 F' N''
    exact stop h' tk (b1.of ff.eqv) F' N''
end
end Mine
namespace Mine
section
variable {h₀ h : Heap} {L : Addr} {s : Shared} {A : Around} {E : Value → Shared → Prop} {m : Str → Option Value}
theorem abs_row {G : Addr → Obj → Prop} {x1 x2 : Addr × Obj} {rest : List (Addr × Obj)} {RW : Addr} {c : Nat} {rv : List Value} {rt : List (Option Ky)} (N : News h₀ L h (x1 :: x2 :: (RW, listOf (List.toArray rv) c) :: rest)) (hR : ThsIn G rv rt) (hz : rv.length ≤ 100) :
    ∃ items ths, News h₀ L h (x1 :: x2 :: (RW, listOf (List.toArray items) c) :: rest) ∧ ThsIn G items ths ∧ items.length ≤ 100 := ⟨rv, rt, N, hR, hz⟩
theorem cut2 {M : Model} {t : Sem Flow} {Q : Flow → Shared → Prop} {TD MK I PL RW : Addr} (own : List (Addr × Obj)) (tsf : Value → List Value) (_F : Fr h₀ L s.heap m) (_hn : Names3 m TD MK I PL RW)
    (h1 : wpAny M A t (fun f s' => f = Flow.next ∧ Mid2 h₀ L s own TD MK I PL RW (tsf (.ref MK)) s') E s)
    (h2 : ∀ h' tk m' tn own', Fr h₀ L h' m' → News h₀ L h' own' → Names3 m' TD MK I PL RW → (TD, listOf (List.toArray (tsf (.ref MK))) tn) ∈ own' → (∀ p ∈ own, p ∈ own') → Q .next { s with heap := h', toks := tk }) : wpAny M A t Q E s := by
  refine cutMid _ h1 fun s' h => ?_
  obtain ⟨h', tk, m', tn, own', rfl, a, b, c, d, e⟩ := h
  exact h2 h' tk m' tn own' a b c d e
theorem mid2_of {TD MK I PL RW : Addr} {base all : List (Addr × Obj)} {h' : Heap} {tk tn : Nat} {m' : Str → Option Value} {ts ts' : List Value} (F : Fr h₀ L h' m') (N : News h₀ L h' all) (hn : Names3 m' TD MK I PL RW) (hTD : (TD, listOf (List.toArray ts) tn) ∈ all) (e : ts' = ts) (hb : ∀ p ∈ base, p ∈ all) :
    Mid2 h₀ L s base TD MK I PL RW ts' { s with heap := h', toks := tk } := ⟨h', tk, m', tn, all, rfl, F, N, hn, e ▸ hTD, hb⟩
end
theorem off3 {own : List (Addr × Obj)} {a b c : Addr} (h : OwnOff own [a, b, c]) {p : Addr × Obj} (hp : p ∈ own) : p.1 ≠ a ∧ p.1 ≠ b ∧ p.1 ≠ c := ⟨h p hp _ (.head _), h p hp _ (.tail _ (.head _)), h p hp _ (.tail _ (.tail _ (.head _)))⟩
theorem names3_over {m : Str → Option Value} {x : Str} {v : Option Value} {TD MK I PL RW : Addr} (h : Names3 m TD MK I PL RW) (n : x ≠ "told" ∧ x ≠ "mark" ∧ x ≠ "source" ∧ x ≠ "plain" ∧ x ≠ "row") : Names3 (fun y => if y = x then v else m y) TD MK I PL RW :=
  ⟨(if_neg (Ne.symm n.1)).trans h.told, (if_neg (Ne.symm n.2.1)).trans h.mark, (if_neg (Ne.symm n.2.2.1)).trans h.source, (if_neg (Ne.symm n.2.2.2.1)).trans h.plain, (if_neg (Ne.symm n.2.2.2.2)).trans h.row⟩
theorem dueL_len {mk : Value} {ks : List Ky} : ∀ (vs : List Value) (ths : List (Option Ky)), (dueL mk ks vs ths).length ≤ vs.length
  | [], _ => by simp [dueL]
  | _ :: _, [] => by simp [dueL]
  | v :: vs, some y :: ths => by
    have := dueL_len (mk := mk) (ks := ks) vs ths
    rw [dueL]
    split
    · simp; omega
    · simp; omega
  | v :: vs, none :: ths => by
    have := dueL_len (mk := mk) (ks := ks) vs ths
    rw [dueL]
    simp; omega
theorem dueN_len {mk : Value} {ks : List Ky} {vs : List Value} {ths : List (Option Ky)} {i : Nat} : (dueN mk ks vs ths i).length ≤ i := by
  unfold dueN
  refine Nat.le_trans (dueL_len _ _) ?_
  rw [List.length_take]
  exact Nat.min_le_left _ _
end Mine
namespace Mine
theorem entry_unchain : entryFor table "proto.unchain" = some Builtin.«proto.unchain» := entryFor_of_tree (by kernel_rfl)
theorem plain_unchain : plainId "proto.unchain" = true := by decide +kernel
/-- nothing is handled, or an exception without a context -/
def Calm (A : Around) (h : Heap) : Prop := A.handled = none ∨ ∃ e oe, A.handled = some (.ref e) ∧ h.get? e = some oe ∧ Bare oe
section
variable {prog : Program} {w : World} {A : Around} {E : Value → Shared → Prop} {s : Shared}
theorem raise_calm {α : Type} {e : Addr} {oe : Obj} {vs : Array Value} {Q : α → Shared → Prop} (hc : Calm A s.heap) (he : s.heap.get? e = some oe) (hd : oe.data = .fields vs) (hs : 2 < vs.size) (hne : A.handled ≠ some (.ref e))
    (h : ∀ h' oe', (∀ b o, b ≠ e → s.heap.get? b = some o → h'.get? b = some o) → h'.get? e = some oe' → oe'.cls = oe.cls → E (.ref e) { s with heap := h' }) : wpAny (model prog w) A (raiseNew (.ref e) : Sem α) Q E s := by
  unfold raiseNew
  refine wpAny_bind (wpAny_handled ?_)
  rcases hc with hh | ⟨x, ox, hh, hx, vx, hdx, h2x⟩
  · rw [hh]
    exact wpAny_bind (wpAny_pure (wpAny_throw (h _ oe (fun _ _ _ q => q) he rfl)))
  · rw [hh]
    have hxe : (Value.ref x != Value.ref e) = true := by
      rw [hh] at hne
      simp only [bne_iff_ne, ne_eq]
      exact fun q => hne (by rw [q])
    dsimp only
    rw [if_pos hxe]
    refine wpAny_bind (wpAny_holding (wpAny_runValue (codeAny_builtin entry_unchain ?_)))
    rw [Around.under_plainId plain_unchain _]
    show wpAny _ _ (field (.ref x) 2 >>= _) _ _ _
    refine wpAny_bind (wpAny_field hx hdx h2x ?_)
    show wpAny _ _ (ret Value.none >>= _) _ _ _
    refine wpAny_bind (wpAny_pure (wpAny_pure ?_))
    show wpAny _ _ (setField (.ref e) 2 (.ref x) >>= _) _ _ _
    refine wpAny_bind (wpAny_setField he hd hs ?_)
    exact wpAny_throw (h _ _ (fun b o hb q => (Heap.get?_update_other _ _ (Ne.symm hb)).trans q) (Heap.get?_update_self _ he (Obj.isFreed_of_fields (Obj.data_mapFields hd _))) (Obj.cls_mapFields _ _))
theorem list_end_calm {it l : Addr} {i : Nat} {items : Array Value} {Q : Option Value → Shared → Prop} (hc : Calm A s.heap) (hni : A.handled ≠ some (.ref it)) (hit : s.heap.IsListIter it l i) (hl : s.heap.IsList l items) (hx : items[i]? = none)
    (hQ : ∀ h', (∀ b o, b ≠ it → s.heap.get? b = some o → h'.get? b = some o) → Q none { s with heap := h' }) : wpAny (model prog w) A (pyNext (.ref it)) Q E s := by
  obtain ⟨o, ho, hcl, hd⟩ := id hit
  obtain ⟨ol, hol, _, nl, hdl⟩ := hl
  unfold pyNext
  refine wpAny_bind (wpAny_attempt (wpAny_callSpecial?_slot (name := Str.ofString "__next__") hit.typeIs slot_listiter_next (wpAny_call_entry slot_listiter_next hit.typeIs entry_listiter_next ?_ (args_listiter_next _))))
  show wpAny _ _ (field (.ref it) 0 >>= _) _ _ s
  refine wpAny_bind (wpAny_field ho hd (x := .ref l) rfl ?_)
  show wpAny _ _ (if (Value.ref l == Value.none) = true then _ else _) _ _ s
  rw [if_neg (show ¬ ((Value.ref l == Value.none) = true) from Bool.false_ne_true)]
  show wpAny _ _ (field (.ref it) 1 >>= _) _ _ s
  refine wpAny_bind (wpAny_field ho hd (x := .int i 0) rfl ?_)
  show wpAny _ _ (seqItems? (.ref l) >>= _) _ _ s
  refine wpAny_bind (wpAny_seqItems hol hdl ?_)
  simp only [Int.toNat_natCast, hx]
  refine wpAny_bind (wpAny_rule (wpAny_bind (wpAny_setField ho hd (by simp) ?_)))
  show wpAny _ _ (newExc (.type "StopIteration") [] >>= _) _ _ _
  refine wpAny_bind ?_
  simp only [newExc, newTuple]
  refine wpAny_bind (wpAny_newObj_type ?_ (by size_fits))
  refine wpAny_bind (m := firstArgMember _ _) (wpAny_of_eq (a := Value.none) (by first | rfl | (simp only [firstArgMember]; rfl)) ?_)
  refine wpAny_newObj_type ?_ (by size_fits)
  have old : ∀ b o', b ≠ it → s.heap.get? b = some o' → (s.heap.update it (Obj.mapFields (·.setIfInBounds 0 Value.none))).get? b = some o' := fun b o' hb q => (Heap.get?_update_other _ _ (Ne.symm hb)).trans q
  dsimp only
  generalize hH : ((s.heap.update it _).push _) = H
  have old2 : ∀ b o', b ≠ it → s.heap.get? b = some o' → H.get? b = some o' := fun b o' hb q => hH ▸ Heap.get?_push_of_some _ (old b o' hb q)
  have hlt : ∀ b o', b ≠ it → s.heap.get? b = some o' → b ≠ H.objs.size := fun b o' hb q => Nat.ne_of_lt (Heap.lt_size (old2 b o' hb q))
  refine raise_calm ?_ (Heap.get?_push_size _ rfl) rfl (by simp; omega) ?_ ?_
  · rcases hc with hh | ⟨x, ox, hh, hx', hb⟩
    · exact .inl hh
    · exact .inr ⟨x, ox, hh, Heap.get?_push_of_some _ (old2 x ox (by rintro rfl; exact hni hh) hx'), hb⟩
  · show A.handled ≠ _
    rcases hc with hh | ⟨x, ox, hh, hx', hb⟩
    · rw [hh]; exact nofun
    · rw [hh]
      intro q
      have q' : x = H.objs.size := by cases q; rfl
      exact hlt x ox (by rintro rfl; exact hni hh) hx' q'
  · intro h' oe' k he hce
    refine wpAny_bind (wpAny_isInstance (T := "StopIteration") (b := true) ⟨_, he, hce.trans rfl⟩ isSubtype_stop ?_)
    exact wpAny_pure (hQ _ fun b o' hb q => k b o' (hlt b o' hb q) (Heap.get?_push_of_some _ (old2 b o' hb q)))
end
end Mine
namespace Mine
theorem ThIn.keyOf {G : Addr → Obj → Prop} {v : Value} {th : Option Ky} (x : ThIn G v th) (h : th ≠ none) : ∃ y, th = some y ∧ KyIn G v y := by
  cases x with
  | key y => exact ⟨_, rfl, y⟩
  | lst => exact absurd rfl h
def CalmG (A : Around) (G : Addr → Obj → Prop) : Prop := A.handled = none ∨ ∃ e oe, A.handled = some (.ref e) ∧ G e oe ∧ Bare oe
theorem CalmG.at' {A : Around} {G : Addr → Obj → Prop} {h : Heap} (c : CalmG A G) (k : ∀ a o, G a o → h.get? a = some o) : Calm A h := by
  rcases c with c | ⟨e, oe, a, b, c⟩
  · exact .inl c
  · exact .inr ⟨e, oe, a, k _ _ b, c⟩
theorem CalmG.ne {A : Around} {G : Addr → Obj → Prop} {I : Addr} (c : CalmG A G) (k : ∀ a o, G a o → a ≠ I) : A.handled ≠ some (.ref I) := by
  rcases c with c | ⟨e, oe, a, b, c⟩
  · rw [c]; exact nofun
  · rw [a]
    intro q
    cases q
    exact k _ _ b rfl
section
variable {prog : Program} {w : World} {A : Around} {E : Value → Shared → Prop} {s : Shared} {G : Addr → Obj → Prop}
theorem setAdd_C {a : Addr} {so : Obj} {ks : List Ky} {x : Value} {y : Ky} {Q : Bool → Shared → Prop} (hG : ∀ a o, G a o → s.heap.get? a = some o) (hx : KyIn G x y) (ho : s.heap.get? a = some so) (hS : SetK w G so ks) (hu : A.units + 2 < cLine)
    (ok : ∀ b tk s', Added w G { s with toks := tk } a ks y s' → Q b s') : wpAny (model prog w) A (setAdd a x) Q E s := by
  unfold setAdd
  refine wpAny_holding ?_
  refine wpAny_bind (pyHash_K (hx.mono hG) hu fun tk => ?_)
  exact setAddHashed_K (s := { s with toks := tk }) hG hx ho hS hu fun b s' hadd => ok b tk s' hadd
theorem loop_C {S I l : Addr} {items : List Value} {ths : List (Option Ky)} {R : Result → Shared → Prop} {Gc : Addr → Obj → Prop} (hh : CalmG A Gc) (hGcn : ∀ a o, Gc a o → a ≠ S ∧ a ≠ I) (hu : A.units + 4 < cLine) (hSI : S ≠ I) (hSl : S ≠ l) (hIl : I ≠ l) (hGn : ∀ a o, G a o → a ≠ S ∧ a ≠ I) : ∀ (k i : Nat) (s : Shared) (so : Obj) (ks : List Ky), items.length - i = k → i ≤ items.length → s.heap.IsListIter I l i → s.heap.IsList l items.toArray → (∀ a o, G a o → s.heap.get? a = some o) → (∀ a o, Gc a o → s.heap.get? a = some o) → ThsIn G items ths → s.heap.get? S = some so → SetK w G so ks →
    none ∉ ths.drop i → (∀ h' tk so' ks', (∀ b o, b ≠ S → b ≠ I → s.heap.get? b = some o → h'.get? b = some o) → h'.get? S = some so' → SetK w G so' ks' → (∀ j, j ∈ ks' ↔ j ∈ ks ∨ some j ∈ ths.drop i) → R (.ok (.ret .none)) { s with heap := h', toks := tk }) →
    codeAny (model prog w) A (.builtin "set.update.loop" ⟨[.ref S, .ref I], []⟩) R s := by
  intro k
  induction k with
  | zero =>
    intro i s so ks hk hi hit hl hG hGc hths ho hS hnn done
    have hin : i = items.length := by omega
    subst hin
    refine codeAny_builtin PyProof.Rows.F.entry_set_update_loop ?_
    rw [Around.under_plainId PyProof.Rows.F.plain_set_update_loop _]
    show wpAny _ A.in1 (pyNext (.ref I) >>= _) _ _ s
    refine wpAny_bind (list_end_calm (hh.at' hGc) (hh.ne fun a o g => (hGcn a o g).2) hit hl (by simp) fun h' hx => ?_)
    show wpAny _ A.in1 (ret Value.none) _ _ _
    have hd : ths.drop items.length = [] := List.drop_eq_nil_of_le (by rw [hths.len]; exact Nat.le_refl _)
    obtain ⟨oI, hoI, hcI, _⟩ := id hit
    have kb : ∀ b o, b ≠ I → s.heap.get? b = some o → h'.get? b = some o := fun b o hb e => hx b o hb e
    refine wpAny_pure (done h' s.toks so ks (fun b o _ h2 e => kb b o h2 e) (kb S so hSI ho) hS fun j => by rw [hd]; simp)
  | succ k ih =>
    intro i s so ks hk hi hit hl hG hGc hths ho hS hnn done
    have hlt : i < items.length := by omega
    refine codeAny_builtin PyProof.Rows.F.entry_set_update_loop ?_
    rw [Around.under_plainId PyProof.Rows.F.plain_set_update_loop _]
    show wpAny _ A.in1 (pyNext (.ref I) >>= _) _ _ s
    have hx0 : items[i]? = some items[i] := List.getElem?_eq_getElem hlt
    obtain ⟨th, hth, hin⟩ := hths.at' i _ hx0
    have hdrop : ths.drop i = th :: ths.drop (i + 1) := by
      obtain ⟨h1, h2⟩ := List.getElem?_eq_some_iff.mp hth
      rw [List.drop_eq_getElem_cons h1, h2]
    refine wpAny_bind (wpAny_pyNext_list_item hit hl (x := items[i]) (by simp) fun h2 hit2 hsb => ?_)
    obtain ⟨oI, hoI, hcI, _⟩ := id hit
    have oddI : Odd oI := ⟨by rw [hcI]; exact nofun, by rw [hcI]; exact nofun⟩
    have kb : ∀ b o, b ≠ I → s.heap.get? b = some o → h2.get? b = some o := fun b o hb e => hsb.extBut b o hb e
    have hG2 : ∀ a o, G a o → h2.get? a = some o := fun a o g => kb a o (hGn a o g).2 (hG a o g)
    have ho2 := kb S so hSI ho
    have hl2 : h2.IsList l items.toArray := by obtain ⟨o, e, r⟩ := id hl; exact ⟨o, kb _ _ (Ne.symm hIl) e, r⟩
    show wpAny _ A.in1 (holding [items[i]] (setAdd S items[i]) >>= _) _ _ _
    refine wpAny_bind (wpAny_holding ?_)
    obtain ⟨y, rfl, ky⟩ := hin.keyOf (by rintro rfl; exact hnn (by rw [hdrop]; exact .head _))
    refine setAdd_C (s := { s with heap := h2 }) hG2 ky ho2 hS (by show A.units + 1 + 2 < cLine; omega) (fun b tk s' hadd => ?_)
    · obtain ⟨h3, so3, ks3, rfl, sb3, ho3, hS3, hmem3⟩ := hadd
      have k3 : ∀ b o, b ≠ S → h2.get? b = some o → h3.get? b = some o := fun b o hb e => (sb3.2 b hb).trans e
      have hit3 : h3.IsListIter I l (i + 1) := by obtain ⟨o, e, r⟩ := id hit2; exact ⟨o, k3 _ _ (Ne.symm hSI) e, r⟩
      have hl3 : h3.IsList l items.toArray := by obtain ⟨o, e, r⟩ := id hl2; exact ⟨o, k3 _ _ (Ne.symm hSl) e, r⟩
      refine wpAny_pure ⟨plainId_quiet PyProof.Rows.F.plain_set_update_loop _, ih (i + 1) _ so3 ks3 (by omega) hlt hit3 hl3 (fun a o g => k3 a o (hGn a o g).1 (hG2 a o g)) (fun a o g => k3 a o (hGcn a o g).1 (kb a o (hGcn a o g).2 (hGc a o g))) hths ho3 hS3 (fun hm => hnn (by rw [hdrop]; exact .tail _ hm)) (fun h' tk' so' ks' kk e1 e2 e3 => ?_)⟩
      · refine done h' tk' so' ks' (fun b o h1 h2' e => kk b o h1 h2' (k3 b o h1 (kb b o h2' e))) e1 e2 fun j => ?_
        rw [e3 j, hmem3 j, hdrop, List.mem_cons]
        constructor
        · rintro ((h | h) | h)
          · exact .inl h
          · exact .inr (.inl (by rw [h]))
          · exact .inr (.inr h)
        · rintro (h | h | h)
          · exact .inl (.inl h)
          · exact .inl (.inr (Option.some.inj h))
          · exact .inr h
theorem set_things_C {l : Addr} {items : List Value} {nl : Nat} {ths : List (Option Ky)} {Q : Value → Shared → Prop} {Gc : Addr → Obj → Prop} (hh : CalmG A Gc) (hGc : ∀ a o, Gc a o → s.heap.get? a = some o) (hno : none ∉ ths) (hol : s.heap.get? l = some (listOf (List.toArray items) nl)) (hG : ∀ a o, G a o → s.heap.get? a = some o) (hths : ThsIn G items ths) (hu : A.units + 10 < cLine)
    (ok : ∀ h' tk so' ks', (∀ b o, s.heap.get? b = some o → h'.get? b = some o) → h'.get? s.heap.objs.size = some so' → SetK w G so' ks' → (∀ j, j ∈ ks' ↔ some j ∈ ths) → Q (.ref s.heap.objs.size) { s with heap := h', toks := tk }) :
    wpAny (model prog w) A (call (.type "set") [.ref l]) Q E s := by
  obtain ⟨c, tl, hmro⟩ := PySem.F.called_set.mro
  have hmade := PySem.F.called_set.made
  have hsub := PySem.F.called_set.sub
  refine wpAny_call (codeAny_of_tree ?_)
  show wpAny _ _ (callAny (.type "set") _) _ _ _
  refine wpAny_pure ⟨Code.quiet_builtin _ (by decide +kernel), codeAny_builtin PySem.F.entry_type_call ?_⟩
  rw [Around.under_plain (weight_type_call_type "set" [.ref l] []) rfl]
  have h1 := PySem.F.called_set.notType
  have h2 := PySem.F.called_set.canCreate
  have hct := PySem.F.typeCall_set_1 (.ref l)
  repeat (any_goals (first | assumption | wp_step))
  refine codeAny_mono (code_set_new_1 (.ref l) (E := E) (Q₁ := fun obj s₁ => ∃ led : Bool, obj = .ref s.heap.objs.size ∧ s₁ = { s with heap := s.heap.push { cls := .type "set", dict := none, data := .set #[] 0 (.fresh 0 0 led) } }) fun led => ⟨led, rfl, rfl⟩) fun r s₁ hr => ?_
  cases r with
  | error e => exact hr
  | ok fl =>
    cases fl with
    | ret obj =>
      obtain ⟨led, rfl, rfl⟩ := hr
      have hS : (s.heap.push { cls := .type "set", dict := none, data := .set #[] 0 (.fresh 0 0 led) }).get? s.heap.objs.size = some { cls := .type "set", dict := none, data := .set #[] 0 (.fresh 0 0 led) } := Heap.get?_push_size _ rfl
      have hT : Shared.TypeIs { s with heap := s.heap.push { cls := .type "set", dict := none, data := .set #[] 0 (.fresh 0 0 led) } } (.ref s.heap.objs.size) "set" := ⟨_, hS, rfl⟩
      have hli := PySem.F.called_set.init.lookup
      have hbi := PySem.F.called_set.init.bind (.ref s.heap.objs.size)
      repeat (any_goals (first | assumption | wp_step))
      refine codeAny_mono (codeAny_call_builtin (R := fun r s₂ => match r with
          | .ok f => f = .ret .none ∧ ∃ h' tk so' ks', s₂ = { s with heap := h', toks := tk } ∧ (∀ b o, s.heap.get? b = some o → h'.get? b = some o) ∧ h'.get? s.heap.objs.size = some so' ∧ SetK w G so' ks' ∧ (∀ j, j ∈ ks' ↔ some j ∈ ths)
          | .error e => E e s₂) PySem.F.called_set.init.plain PySem.F.entry_set_init (check_set_init_1 hT ?_)) fun r₂ s₂ hr₂ => ?_
      · have hol' : (s.heap.push { cls := .type "set", dict := none, data := .set #[] 0 (.fresh 0 0 led) }).get? l = some { cls := .type "list", dict := none, data := .seq items.toArray nl, slots := #[] } := Heap.get?_push_of_some _ hol
        have hsls := PySem.F.sub_list_set
        have hslf := PySem.F.sub_list_frozenset
        have hne : (Value.type "list" == Value.type "dict") = false := by decide
        have hl1 : (s.heap.push { cls := .type "set", dict := none, data := .set #[] 0 (.fresh 0 0 led) }).IsList l items.toArray := ⟨_, hol', rfl, nl, rfl⟩
        unfold Builtin.«set.__init__» noKeywords Builtin.Frozenset.updateFrom
        generalize hPI : pyIter = PI
        wp_walk
        subst hPI
        refine wpAny_pyIter_list hl1 ?_
        refine wpAny_bind (wpAny_runValue ?_)
        have hlS : @LT.lt Nat _ l s.heap.objs.size := Heap.lt_size hol
        have hp1 : @Eq Nat (s.heap.push { cls := .type "set", dict := none, data := .set #[] 0 (.fresh 0 0 led) }).objs.size (s.heap.objs.size + 1) := Heap.size_push ..
        generalize hH1 : s.heap.push { cls := .type "set", dict := none, data := .set #[] 0 (.fresh 0 0 led) } = H1 at *
        have k1 : ∀ b o, s.heap.get? b = some o → H1.get? b = some o := fun b o e => hH1 ▸ Heap.get?_push_of_some _ e
        have k2 : ∀ b o, H1.get? b = some o → (H1.push { cls := .type "list_iterator", data := .fields #[.ref l, .int 0 0] }).get? b = some o := fun b o e => Heap.get?_push_of_some _ e
        have lt1 : ∀ {b : Addr} {o : Obj}, s.heap.get? b = some o → b ≠ s.heap.objs.size ∧ b ≠ H1.objs.size := by
          intro b o e
          have h1 : @LT.lt Nat _ b s.heap.objs.size := Heap.lt_size e
          refine ⟨fun q => ?_, fun q => ?_⟩
          · have q' : @Eq Nat b s.heap.objs.size := q
            omega
          · have q' : @Eq Nat b H1.objs.size := q
            omega
        have hSI : s.heap.objs.size ≠ H1.objs.size := by
          intro q
          have q' : @Eq Nat s.heap.objs.size H1.objs.size := q
          omega
        refine loop_C (ths := ths) (items := items) (A := _) (by first | exact hh | (simpa [CalmG] using hh)) (fun a o g => lt1 (hGc a o g)) (by simp only [Around.in1_units]; omega) hSI (Ne.symm (lt1 hol).1) (Ne.symm (lt1 hol).2) (fun a o g => lt1 (hG a o g)) (items.length - 0) 0 _ _ [] rfl (Nat.zero_le _) ⟨_, Heap.get?_push_size _ rfl, rfl, rfl⟩ (hl1.push _) (fun a o g => k2 _ _ (k1 _ _ (hG a o g))) (fun a o g => k2 _ _ (k1 _ _ (hGc a o g))) hths (k2 _ _ hS) (setK_new w _ led) (by simpa using hno) (fun h' tk so' ks' kk ho' hS' hm' => ?_)
        · show wpAny _ _ _ _ _ _
          refine wpAny_pure ?_
          show wpAny _ _ (ret Value.none) _ _ _
          refine wpAny_pure ⟨rfl, h', tk, so', ks', rfl, fun b o e => kk b o (lt1 e).1 (lt1 e).2 (k2 _ _ (k1 _ _ e)), ho', hS', fun j => ?_⟩
          rw [hm' j]
          simp
      · cases r₂ with
        | error e => exact hr₂
        | ok fl₂ =>
          obtain ⟨rfl, h', tk, so', ks', rfl, hk', ho', hS', hm'⟩ := hr₂
          repeat (any_goals (first | assumption | wp_step))
          exact ok h' tk so' ks' hk' ho' hS' hm'
    | _ => exact hr.elim
end
section
variable {prog : Program} {w : World} {A : Around} {E : Value → Shared → Prop} {s : Shared} {h₀ : Heap} {L : Addr} {m : Str → Option Value} {news : List (Addr × Obj)}
theorem set_things_CN {l e : Addr} {oe : Obj} {vs : List Value} {nl : Nat} {ths : List (Option Ky)} {G : Addr → Obj → Prop} {Q : Value → Shared → Prop} (F : Fr h₀ L s.heap m) (N : News h₀ L s.heap news) (hm : (l, listOf (List.toArray vs) nl) ∈ news) (hths : ThsIn G vs ths) (hG : ∀ a o, G a o → (a, o) ∈ news) (hh : A.handled = some (.ref e)) (he : (e, oe) ∈ news) (hb : Bare oe) (hno : none ∉ ths) (hu : A.units + 10 < cLine)
    (ok : ∀ S so ks h' tk, Fr h₀ L h' m → News h₀ L h' ((S, so) :: news) → (∀ p ∈ news, p.1 < S) → SetK w G so ks → (∀ j, j ∈ ks ↔ some j ∈ ths) → Q (.ref S) { s with heap := h', toks := tk }) :
    wpAny (model prog w) A (call (.type "set") [.ref l]) Q E s := by
  refine set_things_C (Gc := fun a o => (a, o) ∈ news) (.inr ⟨e, oe, hh, he, hb⟩) (fun a o g => (N _ g).1) hno (N _ hm).1 (fun a o g => (N _ (hG a o g)).1) hths hu (fun h' tk so' ks' hk ho hS hm' => ?_)
  exact ok _ so' ks' h' tk (F.keeps hk) (News_new F N hk (Nat.le_refl _) ho) (fun p hp => Heap.lt_size (N p hp).1) hS hm'
end
end Mine
namespace Mine
theorem KyIn.inj {G : Addr → Obj → Prop} (hU : Uniq G) {v : Value} {j k : Ky} (x : KyIn G v j) (y : KyIn G v k) : j = k := by
  cases x with
  | int n t ht =>
    generalize hv : Value.int (nOf n) t = v at y
    cases y with
    | int n' t' ht' => injection hv with hv _; rw [nOf_inj hv]
    | boo b n' e => cases hv
    | str n' t' ht' => cases hv
    | tup n' t' a' g' => cases hv
  | boo b n e =>
    generalize hv : Value.bool b = v at y
    cases y with
    | int n' t' ht' => cases hv
    | boo b' n' e' => injection hv with hv; subst hv; rw [nOf_inj (e.symm.trans e')]
    | str n' t' ht' => cases hv
    | tup n' t' a' g' => cases hv
  | str n t ht =>
    generalize hv : Value.str (sOf n) t = v at y
    cases y with
    | int n' t' ht' => cases hv
    | boo b' n' e' => cases hv
    | str n' t' ht' => injection hv with hv _; rw [sOf_inj _ _ hv]
    | tup n' t' a' g' => cases hv
  | tup n t a g =>
    generalize hv : Value.ref a = v at y
    cases y with
    | int n' t' ht' => cases hv
    | boo b' n' e' => cases hv
    | str n' t' ht' => cases hv
    | tup n' t' a' g' =>
      injection hv with hv
      subst hv
      have e := hU _ _ _ g g'
      simp only [tupObj, Obj.mk.injEq, Data.seq.injEq, true_and, and_true, Array.mk.injEq, List.cons.injEq, Value.int.injEq] at e
      rw [nOf_inj e.1]
open Classical in
noncomputable def isKey (G : Addr → Obj → Prop) (k : Ky) (v : Value) : Bool := decide (KyIn G v k)
theorem isKey_eq {G : Addr → Obj → Prop} (hU : Uniq G) {v : Value} {j k : Ky} (x : KyIn G v j) : isKey G k v = decide (j = k) := by
  unfold isKey
  by_cases h : j = k
  · subst h
    rw [decide_eq_true rfl]
    exact @decide_eq_true _ (Classical.propDecidable _) x
  · rw [decide_eq_false h]
    exact @decide_eq_false _ (Classical.propDecidable _) fun y => h (x.inj hU y)
theorem any_key {G : Addr → Obj → Prop} (hU : Uniq G) {k : Ky} {vs : List Value} {ths : List (Option Ky)} (hT : ThsIn G vs ths) (hno : none ∉ ths) : vs.any (isKey G k) = decide (k ∈ keysOf ths) := by
  by_cases h : k ∈ keysOf ths
  · rw [decide_eq_true h]
    obtain ⟨i, hi⟩ := List.mem_iff_getElem?.mp (keysOf_mem.mp h)
    have hlt : i < vs.length := by rw [hT.len]; exact (List.getElem?_eq_some_iff.mp hi).1
    obtain ⟨th, e1, e2⟩ := hT.at' i _ (List.getElem?_eq_getElem hlt)
    rw [hi] at e1
    cases e1
    refine List.any_eq_true.mpr ⟨_, List.getElem_mem hlt, ?_⟩
    obtain ⟨y, e3, e4⟩ := e2.keyOf nofun
    cases e3
    rw [isKey_eq hU e4, decide_eq_true rfl]
  · rw [decide_eq_false h]
    refine List.any_eq_false.mpr fun v hv => ?_
    obtain ⟨i, hi⟩ := List.mem_iff_getElem?.mp hv
    obtain ⟨th, e1, e2⟩ := hT.at' i _ hi
    obtain ⟨y, rfl, e4⟩ := e2.keyOf (by rintro rfl; exact hno (List.mem_of_getElem? e1))
    rw [isKey_eq hU e4]
    intro q
    refine h (keysOf_mem.mpr ?_)
    have : y = k := of_decide_eq_true q
    subst this
    exact List.mem_of_getElem? e1
section
variable {prog : Program} {w : World} {A : Around} {E : Value → Shared → Prop} {s : Shared} {h₀ : Heap} {L : Addr} {m : Str → Option Value} {news : List (Addr × Obj)}
/-- thing not in plain -/
theorem notin_plain {PL : Addr} {v : Value} {k : Ky} {vs : List Value} {n : Nat} {ths : List (Option Ky)} {G : Addr → Obj → Prop} {Q : Value → Shared → Prop} (hU : Uniq G) (N : News h₀ L s.heap news) (hm : (PL, listOf (List.toArray vs) n) ∈ news) (hT : ThsIn G vs ths) (hno : none ∉ ths) (hG : ∀ a o, G a o → (a, o) ∈ news) (hv : KyIn G v k) (hu : A.units + 3 < cLine)
    (h : Q (.bool (!decide (k ∈ keysOf ths))) s) : wpAny (model prog w) A (compareOp .NotIn v (.ref PL)) Q E s := by
  have hAt : ∀ a o, G a o → AtH s.heap a o := fun a o g => (N _ (hG a o g)).1
  refine SeqAt.notIn_listAt (isKey G k) ⟨_, (N _ hm).1, rfl, n, rfl⟩ (fun y hy => ?_) ?_
  · obtain ⟨i, hi⟩ := List.mem_iff_getElem?.mp (by simpa using hy : y ∈ vs)
    obtain ⟨th, e1, e2⟩ := hT.at' i _ hi
    obtain ⟨j, rfl, e4⟩ := e2.keyOf (by rintro rfl; exact hno (List.mem_of_getElem? e1))
    rw [isKey_eq hU e4]
    intro prog w E Q hq
    exact eqBool_K (e4.mono hAt) (hv.mono hAt) (by show A.units + 1 + 2 < cLine; omega) hq
  · rw [List.any_toArray, any_key hU hT hno]
    exact h
theorem pyIter_list_N {l : Addr} {vs : List Value} {n : Nat} {Q : Value → Shared → Prop} (F : Fr h₀ L s.heap m) (N : News h₀ L s.heap news) (hm : (l, listOf (List.toArray vs) n) ∈ news)
    (h : ∀ I h', Fr h₀ L h' m → News h₀ L h' ((I, { cls := .type "list_iterator", data := .fields #[.ref l, .int 0 0] }) :: news) → (∀ p ∈ news, p.1 < I) → Q (.ref I) { s with heap := h' }) : wpAny (model prog w) A (pyIter (.ref l)) Q E s := by
  refine wpAny_pyIter_list (⟨_, (N _ hm).1, rfl, n, rfl⟩ : s.heap.IsList l vs.toArray) ?_
  exact h _ _ (F.push _) (N.push F _) fun p hp => Heap.lt_size (N p hp).1
/-- the second loop -/
inductive JD (items : List Value) (ths : List (Option Ky)) (ks : List Ky) (base : List (Addr × Obj)) (II DU TD MK I PL RW : Addr) : Nat → (Str → Option Value) → List (Addr × Obj) → Prop
  | mk {n i c : Nat} {m : Str → Option Value} {oI : Obj} {own : List (Addr × Obj)} : n = items.length + 1 - i → i ≤ items.length → m "due" = some (.ref DU) → Names3 m TD MK I PL RW → OwnOff own [II, DU] → IsLI oI RW i → (∀ p ∈ base, p ∈ own) →
      JD items ths ks base II DU TD MK I PL RW n m ((II, oI) :: (DU, listOf (List.toArray (dueN (.ref MK) ks items ths i)) c) :: own)
theorem law3_due {env : Env} {x : Str} {body : List Stmt} {Q : Flow → Shared → Prop} {G : Addr → Obj → Prop} {items : List Value} {ths : List (Option Ky)} {ks : List Ky} {base all : List (Addr × Obj)} {II DU TD MK I PL RW : Addr} {c na : Nat}
    (F : Fr h₀ L s.heap m) (N : News h₀ L s.heap all) (hII : (II, { cls := .type "list_iterator", data := .fields #[.ref RW, .int 0 0] }) ∈ all) (hDU : (DU, listOf #[] c) ∈ all) (hRW : (RW, listOf (List.toArray items) na) ∈ base) (hths : ThsIn G items ths) (hh : A.handled = none)
    (hm : m "due" = some (.ref DU)) (hn : Names3 m TD MK I PL RW) (hbase : ∀ p ∈ base, p ∈ all) (nb : ∀ p ∈ base, p.1 ≠ II ∧ p.1 ≠ DU) (ne : II ≠ DU)
    (turn : ∀ (i c : Nat) (v : Value) (th : Option Ky) (m : Str → Option Value) (oI : Obj) (own : List (Addr × Obj)) (h : Heap) (tk : Nat), i < items.length → items[i]? = some v → ths[i]? = some th → ThIn G v th → m "due" = some (.ref DU) → Names3 m TD MK I PL RW → OwnOff own [II, DU] → IsLI oI RW (i + 1) → (∀ p ∈ base, p ∈ own) → Fr h₀ L h m →
      News h₀ L h ((II, oI) :: (DU, listOf (List.toArray (dueN (.ref MK) ks items ths i)) c) :: own) →
      wpAny (model prog w) A (storeName env x v) (fun _ s₃ => wpAny (model prog w) A (execs body env) (FPost h₀ L (JD items ths ks base II DU TD MK I PL RW) (items.length + 1 - i) s Q) E s₃) E { s with heap := h, toks := tk })
    (done : ∀ (c : Nat) (m : Str → Option Value) (own : List (Addr × Obj)) (h : Heap) (tk : Nat), m "due" = some (.ref DU) → Names3 m TD MK I PL RW → (∀ p ∈ own, p.1 ≠ DU) → (∀ p ∈ base, p ∈ own) → Fr h₀ L h m →
      News h₀ L h ((DU, listOf (List.toArray (dueN (.ref MK) ks items ths items.length)) c) :: own) → Q .next { s with heap := h, toks := tk }) :
    ForAt prog w A E h₀ L env x body Q (.ref II) s := by
  have hs : ∀ q ∈ [(II, ({ cls := .type "list_iterator", data := .fields #[.ref RW, .int 0 0] } : Obj)), (DU, listOf (List.toArray (dueN (.ref MK) ks items ths 0)) c)], q ∈ all := by
    intro q hq
    have e0 : dueN (.ref MK) ks items ths 0 = [] := by unfold dueN; simp [dueL]
    rw [e0] at hq
    simp only [List.mem_cons, List.not_mem_nil, or_false] at hq
    rcases hq with rfl | rfl <;> assumption
  have N2 := news_back N hs
  have mem : ∀ p : Addr × Obj, p ∈ all → p.1 ≠ II → p.1 ≠ DU → p ∈ beside (List.map (·.1) [(II, ({ cls := .type "list_iterator", data := .fields #[.ref RW, .int 0 0] } : Obj)), (DU, listOf (List.toArray (dueN (.ref MK) ks items ths 0)) c)]) all := fun p hp a b => by
    refine List.mem_filter.mpr ⟨hp, ?_⟩
    rw [decide_eq_true_eq]
    simp only [List.map_cons, List.map_nil, List.mem_cons, List.not_mem_nil, or_false, not_or]
    exact ⟨a, b⟩
  refine ⟨JD items ths ks base II DU TD MK I PL RW, items.length + 1, m, _, F, N2, ?_, ?_⟩
  · exact JD.mk (i := 0) rfl (Nat.zero_le _) hm hn (beside_off _) ⟨rfl, rfl⟩ (fun p hp => mem p (hbase p hp) (nb p hp).1 (nb p hp).2)
  · intro n m' news h tk J F' N'
    cases J with
    | mk a1 a2 a3 a4 a5 a6 a7 =>
      rename_i i c oI own
      subst a1
      have hI := N' _ (.head _)
      have hit : h.IsListIter II RW i := a6.at hI.1
      have hl : h.IsList RW items.toArray := ⟨_, (N' _ (.tail _ (.tail _ (a7 _ hRW)))).1, rfl, na, rfl⟩
      have off : ∀ p ∈ ((DU, listOf (List.toArray (dueN (.ref MK) ks items ths i)) c) :: own), p.1 ≠ II := by
        intro p hp
        rcases List.mem_cons.mp hp with rfl | hp
        · exact Ne.symm ne
        · exact a5 p hp II (.head _)
      by_cases hlt : i < items.length
      · have hx0 : items[i]? = some items[i] := List.getElem?_eq_getElem hlt
        obtain ⟨th, hth, hin⟩ := hths.at' i _ hx0
        refine wpAny_pyNext_list_item hit hl (x := items[i]) (by simp) fun h2 hit2 hsb => ?_
        obtain ⟨oI2, e2, c2, d2⟩ := id hit2
        refine turn i c _ th m' oI2 own h2 tk hlt hx0 hth hin a3 a4 a5 ⟨c2, d2⟩ a7 (F'.change hsb hI.2.1 hI.2.2) ?_
        exact News.setAt (own := []) (h := h) N' (by intro p hp; cases hp) off hsb e2
      · have hie : i = items.length := by omega
        subst hie
        refine wpAny_pyNext_list_end hh hit hl (by simp) fun h2 hx => ?_
        refine done c m' own h2 tk a3 a4 (fun p hp => a5 p hp DU (.tail _ (.head _))) a7 ⟨F'.ns.at' fun o e => hx _ _ (Ne.symm hI.2.1) e, fun b o e => hx _ _ (by rintro rfl; rw [hI.2.2] at e; cases e) (F'.keep b o e), F'.above⟩ fun q hq => ?_
        have hq' := N' q (.tail _ hq)
        exact ⟨hx _ _ (off q hq) hq'.1, hq'.2⟩
theorem law3_due_end {Q : Flow → Shared → Prop} {items : List Value} {ths : List (Option Ky)} {ks : List Ky} {base all : List (Addr × Obj)} {II DU TD MK I PL RW : Addr} {oI : Obj} {c i tk : Nat} {h' : Heap} {m' : Str → Option Value} {ts : List Value}
    (F : Fr h₀ L h' m') (N : News h₀ L h' all) (hII : (II, oI) ∈ all) (hDU : (DU, listOf (List.toArray ts) c) ∈ all) (hts : ts = dueN (.ref MK) ks items ths (i + 1)) (hi : i < items.length) (hm : m' "due" = some (.ref DU)) (hn : Names3 m' TD MK I PL RW) (hIl : IsLI oI RW (i + 1)) (hbase : ∀ p ∈ base, p ∈ all)
    (nb : ∀ p ∈ base, p.1 ≠ II ∧ p.1 ≠ DU) : FPost h₀ L (JD items ths ks base II DU TD MK I PL RW) (items.length + 1 - i) s Q .next { s with heap := h', toks := tk } := by
  subst hts
  have hs : ∀ q ∈ [(II, oI), (DU, listOf (List.toArray (dueN (.ref MK) ks items ths (i + 1))) c)], q ∈ all := by
    intro q hq
    simp only [List.mem_cons, List.not_mem_nil, or_false] at hq
    rcases hq with rfl | rfl <;> assumption
  have N2 := news_back N hs
  have mem : ∀ p : Addr × Obj, p ∈ all → p.1 ≠ II → p.1 ≠ DU → p ∈ beside (List.map (·.1) [(II, oI), (DU, listOf (List.toArray (dueN (.ref MK) ks items ths (i + 1))) c)]) all := fun p hp a b => by
    refine List.mem_filter.mpr ⟨hp, ?_⟩
    rw [decide_eq_true_eq]
    simp only [List.map_cons, List.map_nil, List.mem_cons, List.not_mem_nil, or_false, not_or]
    exact ⟨a, b⟩
  refine ⟨items.length + 1 - (i + 1), m', _, h', tk, by omega, rfl, F, N2, ?_⟩
  exact JD.mk (i := i + 1) rfl hi hm hn (beside_off _) hIl (fun p hp => mem p (hbase p hp) (nb p hp).1 (nb p hp).2)
end
theorem skips_refl {ths : List (Option Ky)} {ks : List Ky} {i : Nat} : Skips ths ks i i := fun k h1 h2 => by omega
theorem skips_one {ths : List (Option Ky)} {ks : List Ky} {i : Nat} {y : Ky} (h : ths[i]? = some (some y)) (hy : y ∈ ks) : Skips ths ks i (i + 1) := fun k h1 h2 => by
  have : k = i := by omega
  subst this
  exact ⟨y, h, hy⟩
/-- what is due is itself -/
theorem due_mem {mk : Value} {ks : List Ky} {G : Addr → Obj → Prop} : ∀ (vs : List Value) (ths : List (Option Ky)), ThsIn G vs ths → ∀ v ∈ dueL mk ks vs ths, v = mk ∨ ∃ y, KyIn G v y
  | [], ths, _, v, h => by unfold dueL at h; simp at h
  | u :: vs, ths, hT, v, h => by
    obtain ⟨th, r, rfl, h1, h2⟩ := hT.cons
    cases th with
    | none =>
      rw [dueL] at h
      rcases List.mem_cons.mp h with rfl | h
      · exact .inl rfl
      · exact due_mem vs r h2 v h
    | some y =>
      rw [dueL] at h
      by_cases hy : y ∈ ks
      · rw [if_pos hy] at h
        exact due_mem vs r h2 v h
      · rw [if_neg hy] at h
        rcases List.mem_cons.mp h with rfl | h
        · obtain ⟨y', _, e⟩ := h1.keyOf nofun
          exact .inr ⟨y', e⟩
        · exact due_mem vs r h2 v h
end Mine
namespace Mine
/-- a value that is itself -/
def SelfV (v : Value) : Prop := (∃ a, v = .ref a) ∨ ∃ k, ∀ G, KyIn G v k
theorem selfV_of {G : Addr → Obj → Prop} {v : Value} {k : Ky} (x : KyIn G v k) : SelfV v := by
  cases x with
  | int n t ht => exact .inr ⟨_, fun G => .int n t ht⟩
  | boo b n e => exact .inr ⟨_, fun G => .boo b n e⟩
  | str n t ht => exact .inr ⟨_, fun G => .str n t ht⟩
  | tup n t a g => exact .inl ⟨a, rfl⟩
section
variable {prog : Program} {w : World} {A : Around} {E : Value → Shared → Prop} {s : Shared}
theorem is_self {v : Value} {Q : Value → Shared → Prop} (x : SelfV v) (h : Q (.bool true) s) : wpAny (model prog w) A (compareOp .Is v v) Q E s := by
  rcases x with ⟨a, rfl⟩ | ⟨k, x⟩
  · exact wpAny_is_ref_self h
  · show wpAny _ _ (isSame v v >>= _) _ _ _
    exact wpAny_bind (same_K (x _) (wpAny_pure h))
end
section
variable {prog : Program} {w : World} {A : Around} {E : Value → Shared → Prop} {s : Shared} {h₀ : Heap} {L : Addr} {m : Str → Option Value} {news : List (Addr × Obj)}
def CompFinZ (prog : Program) (w : World) (A : Around) (E : Value → Shared → Prop) (use : Option (Value → Sem Unit)) (Q : Value → Shared → Prop) (s₁ : Shared) (z TO i1 i2 : Addr) (len : Nat) : Prop :=
  ∀ D C n h' tk m'', s₁.heap.get? D = none → s₁.heap.get? C = none → D ≠ C → h'.Ns C m'' → h'.get? D = some (listOf (List.toArray (List.replicate len (Value.bool true))) n) → (∀ b o, b ≠ z → b ≠ TO → b ≠ i1 → b ≠ i2 → s₁.heap.get? b = some o → h'.get? b = some o) →
    compPost (model prog w) A E use Q (.ref D) C (.ok .next) { s₁ with heap := h', toks := tk }
/-- [a is b for a, b in zip(l, l')], both lists alike: the walk stands behind the zip -/
def CompAtZ (use : Option (Value → Sem Unit)) (E : Value → Shared → Prop) (prog : Program) (w : World) (A : Around) (Q : Value → Shared → Prop) (xv : Value) (s₁ : Shared) : Prop :=
  ∃ (z TI TO i1 i2 l1 l2 : Addr) (vs : List Value), xv = .ref z ∧ ZipApart z TI TO i1 i2 l1 l2 ∧ IsZip s₁.heap z TI TO .none ∧ IsPair s₁.heap TI (.ref i1) (.ref i2) ∧ IsPair s₁.heap TO .none .none ∧ s₁.heap.IsListIter i1 l1 0 ∧ s₁.heap.IsListIter i2 l2 0 ∧
    s₁.heap.IsList l1 vs.toArray ∧ s₁.heap.IsList l2 vs.toArray ∧ vs.length ≤ 1000 ∧ A.handled = none ∧ (∀ v ∈ vs, SelfV v) ∧ CompFinZ prog w A E use Q s₁ z TO i1 i2 vs.length
theorem CompZ_N {env : Env} {iter : PySem.Expr} {x y : Str} {px py qx qy pc pt : Pos} {kt : Nat} {scope : Scope} {cl : List (Str × Addr)} {pos pos2 : Pos} {Q : Value → Shared → Prop}
    (hclos : closureFor scope env = pure cl) (hcell : ∀ y ∈ scope.names, y.2 ≠ .cell) (hkind : scope.kind = .function)
    (hnames : ∀ y ∈ scope.names, y.2 = .local → scope.names.lookup y.1 = some .local) (hx : scope.names.lookup x = some .local) (hy : scope.names.lookup y = some .local) (hxy : x ≠ y) (hdx : (x == ("__debug__" : Str)) = false) (hdy : (y == ("__debug__" : Str)) = false)
    (use : Option (Value → Sem Unit)) (h : wpAny (model prog w) A (eval iter env) (CompAtZ use E prog w A Q) E s)
    (hs : ∀ x, foldedSetIterable iter env x = pure x := by intro _; rfl) :
    wpAny (model prog w) A (comprehension (LC1 (.Compare (.Name x qx) [.Is] [.Name y qy] pc) (.Tuple [.Name x px, .Name y py] kt pt) iter scope pos) scope env pos2 (newList []) false (eval iter env) use) Q E s := by
  refine wpAny_comprehension_free (use := use) rfl hs hclos hkind hnames (wpAny_mono h (fun xv s₁ h₁ => ?_) fun _ _ e => e)
  obtain ⟨z, TI, TO, i1, i2, l1, l2, vs, rfl, D, hz, hTI, hTO, h1, h2, hl1, hl2, hlen, hh, hself, hfin⟩ := h₁
  refine wpAny_pyIter_zip hz ?_
  refine wpAny_newObj_type (wpAny_newFunctionEnv hcell (by intro y hy; simp at hy) (fun h₁ hns₁ hsb₁ => ?_) hkind)
  dsimp only at hns₁ hsb₁ ⊢
  generalize hH2 : s₁.heap.push { cls := .type "list", dict := none, data := .seq ([] : List Value).toArray } = H2 at hns₁ hsb₁ ⊢
  have hC : H2.objs.size = s₁.heap.objs.size + 1 := by rw [← hH2, Heap.size_push]
  have hDC : s₁.heap.objs.size ≠ H2.objs.size := by rw [hC]; exact Nat.ne_of_lt (Nat.lt_succ_self _)
  have up1 : ∀ b o, s₁.heap.get? b = some o → H2.get? b = some o := fun b o e => hH2 ▸ Heap.get?_push_of_some _ e
  have lt1 : ∀ {b : Addr} {o : Obj}, s₁.heap.get? b = some o → b ≠ H2.objs.size ∧ b ≠ s₁.heap.objs.size := by
    intro b o e
    have h1 : @LT.lt Nat _ b s₁.heap.objs.size := Heap.lt_size e
    refine ⟨fun q => ?_, fun q => ?_⟩
    · have q' : @Eq Nat b H2.objs.size := q
      omega
    · have q' : @Eq Nat b s₁.heap.objs.size := q
      omega
  have fresh : ∀ a, s₁.heap.objs.size ≤ a → s₁.heap.get? a = none := fun a ha => by
    cases e : s₁.heap.get? a with
    | none => rfl
    | some o => exact absurd (Heap.lt_size e) (Nat.not_lt.mpr ha)
  have keep₁ : ∀ b o, s₁.heap.get? b = some o → h₁.get? b = some o := fun b o e => hsb₁.extBut b o (lt1 e).1 (Heap.get?_push_of_some _ (up1 b o e))
  have hacc : h₁.PlainList s₁.heap.objs.size #[] := ⟨_, hsb₁.extBut _ _ hDC (Heap.get?_push_of_some _ (hH2 ▸ Heap.get?_push_size _ rfl))⟩
  generalize hCC : H2.objs.size = C at hns₁ hsb₁ hDC lt1 hC ⊢
  generalize hDD : s₁.heap.objs.size = DD at hDC lt1 hC hacc fresh ⊢
  have W := WalksT.zip2 (prog := prog) (w := w) hh z TI TO i1 i2 l1 l2 D vs.toArray vs.toArray
  have hmin : min vs.toArray.size vs.toArray.size = vs.length := by simp
  have inC : ∀ b ∈ [z, TI, TO, i1, i2, l1, l2], b ≠ C ∧ b ≠ DD := by
    have o1 : ∀ {b o}, s₁.heap.get? b = some o → b ≠ C ∧ b ≠ DD := fun e => lt1 e
    obtain ⟨_, e1, _⟩ := id h1
    obtain ⟨_, e2, _⟩ := id h2
    obtain ⟨_, e3, _⟩ := id hl1
    obtain ⟨_, e4, _⟩ := id hl2
    intro b hb
    simp only [List.mem_cons, List.not_mem_nil, or_false] at hb
    rcases hb with rfl | rfl | rfl | rfl | rfl | rfl | rfl
    · exact o1 hz
    · exact o1 hTI
    · exact o1 hTO
    · exact o1 e1
    · exact o1 e2
    · exact o1 e3
    · exact o1 e4
  have wrC : ∀ b ∈ [z, TO, i1, i2], b ≠ C ∧ b ≠ DD := fun b hb => inC b (W.sub b hb)
  have hkx : (compEnvC scope cl C env).kindOf x = some .local := lookup_relabel_local hx
  have hky : (compEnvC scope cl C env).kindOf y = some .local := lookup_relabel_local hy
  have hpc : ((compEnvC scope cl C env).scope.kind == .class || ((compEnvC scope cl C env).scope.kind == .module && (compEnvC scope cl C env).locals != (compEnvC scope cl C env).globals)) = false := by simp [compEnvC, relabel, hkind]
  have hkf : (compEnvC scope cl C env).scope.kind = .function := by simp [compEnvC, relabel, hkind]
  have loop : ∀ tk₀, codeAny (model prog w) A (.compLoop (LC1 (.Compare (.Name x qx) [.Is] [.Name y qy] pc) (.Tuple [.Name x px, .Name y py] kt pt) iter scope pos) 0 (.ref z) (.ref DD) (compEnvC scope cl C env)) (compPost (model prog w) A E use Q (.ref DD) C)
      { s₁ with heap := h₁, toks := tk₀ } := by
    intro tk₀
    refine loop1 (fun k s' => ∃ h' tk m₂ i, s' = { s₁ with heap := h', toks := tk } ∧ (IsZip h' z TI TO .none ∧ IsPair h' TI (.ref i1) (.ref i2) ∧ (∃ a b, IsPair h' TO a b) ∧ h'.IsListIter i1 l1 i ∧ h'.IsListIter i2 l2 i ∧ h'.IsList l1 vs.toArray ∧ h'.IsList l2 vs.toArray) ∧ h'.Ns C m₂ ∧ h'.PlainList DD (List.toArray (List.replicate i (Value.bool true))) ∧ i ≤ vs.length ∧ k = vs.length + 1 - i ∧
      (∀ b o, b ∉ [z, TO, i1, i2] → s₁.heap.get? b = some o → h'.get? b = some o)) ?_ (vs.length + 1) ⟨h₁, tk₀, _, 0, rfl, ⟨keep₁ _ _ hz, keep₁ _ _ hTI, ⟨_, _, keep₁ _ _ hTO⟩, h1.at fun o e => keep₁ _ o e, h2.at fun o e => keep₁ _ o e, hl1.at fun o e => keep₁ _ o e, hl2.at fun o e => keep₁ _ o e⟩, hns₁, hacc, Nat.zero_le _, rfl, fun b o _ e => keep₁ b o e⟩
    rintro k s' ⟨h', tk, m₂, i, rfl, hst, hn, hD, hin, rfl, hk⟩
    by_cases hlt : i < vs.length
    · refine W.item i _ _ _ (by rw [hmin]; exact hlt) hst fun T vals h₂ tk₂ hP hTs hT2 hM hk₂ => ?_
      obtain ⟨a, b, ha, hb, rfl⟩ := hP
      rw [ha] at hb
      cases hb
      have hav : a ∈ vs := by
        have : vs[i]? = some a := by simpa using ha
        exact List.mem_of_getElem? this
      have hTlt : DD < T ∧ C < T := by
        have e1 : @LT.lt Nat _ C h'.objs.size := hn.lt
        have e2 : @LT.lt Nat _ DD h'.objs.size := by obtain ⟨_, e⟩ := hD; exact Heap.lt_size e
        exact ⟨Nat.lt_of_lt_of_le e2 hTs, Nat.lt_of_lt_of_le e1 hTs⟩
      refine W.go _ _ _ i T _ _ _ hM fun h₃ hst₃ hk₃ => ?_
      have hT3 : h₃.IsTuple T #[a, a] := hT2.at fun o e => hk₃ _ _ (W.apart i T _ hM) e
      refine wpAny_assign_Tuple hh hT3 rfl rfl fun h₄ hx₄ => ?_
      have old₄ : ∀ b o, h₃.get? b = some o → h₄.get? b = some o := fun b o e => hx₄ b o (Nat.ne_of_lt (Heap.lt_size e)) e
      have hn₄ : h₄.Ns C m₂ := ((hn.at' fun o e => hk₂ _ o (fun q => (wrC _ q).1 rfl) e).at' fun o e => hk₃ _ o (fun q => (wrC _ q).1 rfl) e).at' fun o e => old₄ _ o e
      show wpAny _ A (do holding [a] (assign (.Name x px) _ a); do holding [] (assign (.Name y py) _ a); pure ()) _ _ _
      refine wpAny_bind (wpAny_holding (wpAny_assign_Name (wpAny_storeName_local hkx hn₄ (fun h₅ hn₅ hs₅ => ?_) hpc)))
      refine wpAny_bind (wpAny_holding (wpAny_assign_Name (wpAny_storeName_local hky hn₅ (fun h₆ hn₆ hs₆ => wpAny_pure ?_) hpc)))
      have up : ∀ b o, b ≠ C → b ∉ [z, TO, i1, i2] → h'.get? b = some o → h₆.get? b = some o := fun b o c1 c2 e => hs₆.extBut b o c1 (hs₅.extBut b o c1 (old₄ b o (hk₃ b o c2 (hk₂ b o c2 e))))
      have st₆ := W.frame (i + 1) _ h₆ hst₃ fun b hb o e => hs₆.extBut b o (inC b hb).1 (hs₅.extBut b o (inC b hb).1 (old₄ b o e))
      have hvx : (fun z => if z = y then some a else if z = x then some a else m₂ z) x = some a := by show (if x = y then _ else _) = _; rw [if_neg hxy, if_pos rfl]
      have hvy : (fun z => if z = y then some a else if z = x then some a else m₂ z) y = some a := by show (if y = y then _ else _) = _; rw [if_pos rfl]
      refine wpAny_Compare1 (wpAny_Name (hd := hdx) (wpAny_loadName_local hkf hkx hn₆ hvx (wpAny_Name (hd := hdy) (wpAny_loadName_local hkf hky hn₆ hvy (is_self (hself a hav) ?_)))))
      have hD₆ : h₆.PlainList DD (List.toArray (List.replicate i (Value.bool true))) := hD.at fun o e => up _ o hDC (fun q => (wrC _ q).2 rfl) e
      refine wpAny_list_append_plain hD₆ (fun h₇ hD₇ hs₇ => ?_) (by rw [sizeLine_eq]; simp; omega)
      refine ⟨vs.length + 1 - (i + 1), by omega, h₇, _, _, i + 1, rfl, W.frame (i + 1) _ h₇ st₆ (fun b hb o e => hs₇.extBut b o (inC b hb).2 e), hn₆.at' fun o e => hs₇.extBut _ o (Ne.symm hDC) e, ?_, hlt, rfl, fun b o c e => hs₇.extBut b o (lt1 e).2 (up b o (lt1 e).1 c (hk b o c e))⟩
      have er : List.toArray (List.replicate (i + 1) (Value.bool true)) = (List.toArray (List.replicate i (Value.bool true))).push (Value.bool true) := by rw [List.replicate_succ', List.push_toArray]
      rw [er]
      exact hD₇
    · have hie : i = vs.length := by omega
      subst hie
      refine W.done _ _ _ (by rw [hmin]; exact hst) fun h₂ tk₂ hk₂ => ?_
      obtain ⟨n, hD'⟩ := hD.at fun o e => hk₂ _ o (fun q => (wrC _ q).2 rfl) e
      refine hfin DD C n h₂ tk₂ m₂ (fresh _ (Nat.le_refl _)) (fresh _ (by rw [hC]; exact Nat.le_succ _)) hDC (hn.at' fun o e => hk₂ _ o (fun q => (wrC _ q).1 rfl) e) hD' fun b o c1 c2 c3 c4 e => ?_
      have hb : b ∉ [z, TO, i1, i2] := by
        simp only [List.mem_cons, List.not_mem_nil, or_false, not_or]
        exact ⟨c1, c2, c3, c4⟩
      exact hk₂ b o hb (hk b o hb e)
  exact codeAny_compStart_list (loop _) (wpAny_pyIter_zip (keep₁ _ _ hz) (loop _))
theorem CompZ_eval {env : Env} {iter : PySem.Expr} {x y : Str} {px py qx qy pc pt : Pos} {kt : Nat} {scope : Scope} {cl : List (Str × Addr)} {pos : Pos} {Q : Value → Shared → Prop}
    (hclos : closureFor scope env = pure cl) (hcell : ∀ y ∈ scope.names, y.2 ≠ .cell) (hkind : scope.kind = .function)
    (hnames : ∀ y ∈ scope.names, y.2 = .local → scope.names.lookup y.1 = some .local) (hx : scope.names.lookup x = some .local) (hy : scope.names.lookup y = some .local) (hxy : x ≠ y) (hdx : (x == ("__debug__" : Str)) = false) (hdy : (y == ("__debug__" : Str)) = false)
    (h : wpAny (model prog w) A (eval iter env) (CompAtZ none E prog w A Q) E s)
    (hs : ∀ x, foldedSetIterable iter env x = pure x := by intro _; rfl) :
    wpAny (model prog w) A (eval (.ListComp (.Compare (.Name x qx) [.Is] [.Name y qy] pc) [⟨.Tuple [.Name x px, .Name y py] kt pt, iter, [], 0⟩] scope pos) env) Q E s := by
  rw [eval_ListComp]
  exact CompZ_N hclos hcell hkind hnames hx hy hxy hdx hdy none h hs
end
end Mine
namespace Mine
section
variable {prog : Program} {w : World} {A : Around} {E E' : Value → Shared → Prop} {s : Shared} {h₀ : Heap} {L : Addr} {m : Str → Option Value} {news : List (Addr × Obj)}
theorem zip_compAt {l1 l2 : Addr} {vs : List Value} {n1 n2 : Nat} {Q : Value → Shared → Prop} (F : Fr h₀ L s.heap m) (N : News h₀ L s.heap news) (hm1 : (l1, listOf (List.toArray vs) n1) ∈ news) (hm2 : (l2, listOf (List.toArray vs) n2) ∈ news) (hz : vs.length ≤ 1000) (hh : A.handled = none) (hself : ∀ v ∈ vs, SelfV v)
    (h : ∀ D n h' tk, Fr h₀ L h' m → News h₀ L h' ((D, listOf (List.toArray (List.replicate vs.length (Value.bool true))) n) :: news) → (∀ q ∈ news, q.1 ≠ D) → Q (.ref D) { s with heap := h', toks := tk }) :
    wpAny (model prog w) A (call (.type "zip") [.ref l1, .ref l2]) (CompAtZ none E prog w A Q) E' s := by
  have g1 := (N _ hm1).1
  have g2 := (N _ hm2).1
  have b1 : l1 < s.heap.objs.size := Heap.lt_size g1
  have b2 : l2 < s.heap.objs.size := Heap.lt_size g2
  refine call_zip_2 (⟨_, g1, rfl, n1, rfl⟩ : s.heap.IsList l1 vs.toArray) (⟨_, g2, rfl, n2, rfl⟩ : s.heap.IsList l2 vs.toArray) fun h' hzz hTI hTO h1 h2 hsz hk => ?_
  have D : ZipApart (s.heap.objs.size + 4) (s.heap.objs.size + 2) (s.heap.objs.size + 3) s.heap.objs.size (s.heap.objs.size + 1) l1 l2 := by
    generalize s.heap.objs.size = N at b1 b2 ⊢
    have b1' : @LT.lt Nat _ l1 N := b1
    have b2' : @LT.lt Nat _ l2 N := b2
    constructor
    all_goals (intro q; first | (have q' : @Eq Nat l1 _ := q; omega) | (have q' : @Eq Nat l2 _ := q; omega) | (have q' : @Eq Nat _ _ := q; omega))
  refine ⟨_, _, _, _, _, l1, l2, vs, rfl, D, hzz, hTI, hTO, h1, h2, ⟨_, hk _ _ g1, rfl, n1, rfl⟩, ⟨_, hk _ _ g2, rfl, n2, rfl⟩, hz, hh, hself, ?_⟩
  intro D' C n h'' tk m'' hD hC hDC hn hl hkk
  refine ⟨m'', hn, fun h3 hs3 => ?_⟩
  have kC : ∀ b o, b ≠ C → h''.get? b = some o → h3.get? b = some o := fun b o hb e => hs3.extBut b o hb e
  have keep : ∀ b o, s.heap.get? b = some o → h3.get? b = some o := fun b o e => by
    have hb : @LT.lt Nat _ b s.heap.objs.size := Heap.lt_size e
    refine kC b o (by rintro rfl; rw [hk _ _ e] at hC; cases hC) (hkk b o ?_ ?_ ?_ ?_ (hk b o e))
    all_goals (intro q; have q' : @Eq Nat b _ := q; omega)
  have hD0 : s.heap.get? D' = none := by
    cases e : s.heap.get? D' with
    | none => rfl
    | some o => rw [hk _ _ e] at hD; cases hD
  obtain ⟨N', hne⟩ := fresh_ledger F N hD0 keep (kC _ _ hDC hl)
  exact h D' n h3 tk (F.keeps keep) N' hne
/-- False is not among the trues -/
theorem false_notin {l : Addr} {k n : Nat} {Q : Value → Shared → Prop} (N : News h₀ L s.heap news) (hm : (l, listOf (List.toArray (List.replicate k (Value.bool true))) n) ∈ news) (h : Q (.bool true) s) : wpAny (model prog w) A (compareOp .NotIn (.bool false) (.ref l)) Q E s := by
  refine SeqAt.notIn_listAt (fun _ => false) (items := (List.replicate k (Value.bool true)).toArray) ⟨_, (N _ hm).1, rfl, n, rfl⟩ (fun y hy => ?_) ?_
  · have hy' : y ∈ List.replicate k (Value.bool true) := by simpa using hy
    obtain ⟨_, rfl⟩ := List.mem_replicate.mp hy'
    exact SeqAt.EqAt.bool_bool true false
  · have e : (List.replicate k (Value.bool true)).toArray.any (fun _ => false) = false := by rw [List.any_toArray]; exact List.any_eq_false.mpr fun _ _ => by simp
    rw [e]; exact h
theorem notin_t {PL : Addr} {v : Value} {k : Ky} {vs : List Value} {n : Nat} {ths : List (Option Ky)} {G : Addr → Obj → Prop} {Q : Value → Shared → Prop} (hU : Uniq G) (N : News h₀ L s.heap news) (hm : (PL, listOf (List.toArray vs) n) ∈ news) (hT : ThsIn G vs ths) (hno : none ∉ ths) (hG : ∀ a o, G a o → (a, o) ∈ news) (hv : KyIn G v k) (hu : A.units + 3 < cLine)
    (hk : k ∉ keysOf ths) (h : Q (.bool true) s) : wpAny (model prog w) A (compareOp .NotIn v (.ref PL)) Q E s :=
  notin_plain hU N hm hT hno hG hv hu (by rw [decide_eq_false hk]; exact h)
theorem notin_f {PL : Addr} {v : Value} {k : Ky} {vs : List Value} {n : Nat} {ths : List (Option Ky)} {G : Addr → Obj → Prop} {Q : Value → Shared → Prop} (hU : Uniq G) (N : News h₀ L s.heap news) (hm : (PL, listOf (List.toArray vs) n) ∈ news) (hT : ThsIn G vs ths) (hno : none ∉ ths) (hG : ∀ a o, G a o → (a, o) ∈ news) (hv : KyIn G v k) (hu : A.units + 3 < cLine)
    (hk : k ∈ keysOf ths) (h : Q (.bool false) s) : wpAny (model prog w) A (compareOp .NotIn v (.ref PL)) Q E s :=
  notin_plain hU N hm hT hno hG hv hu (by rw [decide_eq_true hk]; exact h)
end
theorem news_dup {h₀ h : Heap} {L : Addr} {own : List (Addr × Obj)} {p : Addr × Obj} (N : News h₀ L h own) (hp : p ∈ own) : News h₀ L h (p :: own) := fun q hq => by
  rcases List.mem_cons.mp hq with rfl | hq
  · exact N _ hp
  · exact N _ hq
theorem dueN_self {mk : Addr} {ks : List Ky} {G : Addr → Obj → Prop} {vs : List Value} {ths : List (Option Ky)} {n : Nat} (hn : vs.length = n) (hT : ThsIn G vs ths) : ∀ v ∈ dueN (.ref mk) ks vs ths n, SelfV v := by
  intro v hv
  unfold dueN at hv
  rw [List.take_of_length_le (by omega), List.take_of_length_le (by rw [← hT.len]; omega)] at hv
  rcases due_mem vs ths hT v hv with rfl | ⟨y, e⟩
  · exact .inl ⟨_, rfl⟩
  · exact selfV_of e
end Mine
open Mine
local macro_rules | `(tactic| walk_at "eval ListComp") => `(tactic| (k_here; (with_reducible show wpAny _ _ (eval (Expr.ListComp (Expr.Call _ _ _ _) [⟨_, _, [], _⟩] _ _) _) _ _ _); k_dflt (refine CompT_eval (by k_asm) (by with_unfolding_all rfl) (by decide) (by rfl) (by decide) (by rfl) ?_)))
local macro_rules | `(tactic| walk_at "exec Assign cons ListComp") => `(tactic| (k_here; (with_reducible show wpAny _ _ (exec (Stmt.Assign [Expr.Name _ _] (Expr.ListComp (Expr.Call _ _ _ _) [⟨_, _, [], _⟩] _ _) _) _) _ _ _); k_dflt (refine CompT_assign (by k_asm) (by with_unfolding_all rfl) (by decide) (by rfl) (by decide) (by rfl) (by rfl) ?_)))
local macro_rules | `(tactic| walk_at "eval Name") => `(tactic| (k_here; k_dflt (refine' nameX_L ?F ?v ?_ ?a ?b; (case F => k_asm); (case a => rfl); (case b => rfl); (case v => (repeat (first | assumption | refine Eq.trans (if_neg (by decide)) ?_))); k_whole)))
local macro_rules | `(tactic| walk_at "eval Name") => `(tactic| (k_here; (with_reducible show wpAny _ _ (eval (Expr.Name _ _) (compEnvC _ _ _ _)) _ _ _); k_dflt (first
  | (refine' name_comp ?F ?v ?_ ?a ?b; (case F => k_asm); (case a => rfl); (case b => rfl); (case v => assumption); k_whole)
  | (refine' name_compB ?F ?X ?T ?e ?v ?n ?_ ?a ?b ?c ?d; (case F => k_asm); (case X => k_asm); (case T => k_asm); (case a => rfl); (case b => rfl); (case c => rfl); (case d => rfl); (case e => k_is); (case v => boot_fast); (case n => decide); k_whole))))
local macro_rules | `(tactic| walk_at "execs cons") => `(tactic| (k_here; with_reducible refine gen_tok fun tk htk => ?_))
local macro_rules | `(tactic| walk_at "exec Assign cons ListComp") => `(tactic| (k_here; (with_reducible show wpAny _ _ (exec (Stmt.Assign [Expr.Name _ _] (Expr.ListComp (Expr.Name _ _) [⟨Expr.Name _ _, _, [_], _⟩] _ _) _) _) _ _ _); k_dflt (refine Comp_assign (by k_asm) (by with_unfolding_all rfl) (by decide) (by rfl) (by decide) (by rfl) (by rfl) ?_)))
local macro_rules | `(tactic| walk_at "binaryOp Add ref ref") => `(tactic| (k_here; k_dflt (refine' add_any ?F ?N ?a ?b ?z ?_; (case F => k_asm); (case N => k_asm); (case a => k_mem); (case b => k_mem); (case z => simp only [List.length_cons, List.length_nil]; omega)); intro D' h' F' N' l1; (try k_lt l1); (try k_sweep)))
local macro_rules | `(tactic| walk_at "call builtin:isinstance") => `(tactic| (k_here; k_dflt (first
  | (refine' isin_lst ?N ?a ?_; (case N => k_asm); (case a => ((repeat apply List.mem_cons_of_mem); assumption)); k_whole)
  | (refine' isin_tup ?N ?a ?_; (case N => k_asm); (case a => ((repeat apply List.mem_cons_of_mem); assumption)); k_whole))))
local macro_rules | `(tactic| walk_at "call builtin:iter") => `(tactic| (k_here; k_dflt (first
  | (refine' iter_li_N ?F ?N ?l ?a ?b ?_; (case F => k_asm); (case N => k_asm); (case l => k_mem); (case a => first | exact rfl | (rename IsLI _ _ _ => hli; exact hli.1)); (case b => first | exact rfl | (rename IsLI _ _ _ => hli; exact hli.2)); k_whole)
  | (refine' iter_list_N ?F ?N ?l ?_; (case F => k_asm); (case N => k_asm); (case l => kmk_list); intro I' h' F' N' l1; (try k_lt l1); (try k_sweep)))))
local macro_rules | `(tactic| walk_at "call type:set") => `(tactic| (k_here; k_dflt (refine' set_things_N ?F ?N ?m ?t ?g ?h ?u ?_ ?_; (case F => k_asm); (case N => k_asm); (case m => first | k_mem | ((repeat apply List.mem_cons_of_mem); assumption)); (case t => assumption); (case g => (intro a o hg; (repeat (first | exact hg | (rename (∀ p ∈ _, p ∈ _) => hg2; exact hg2 _ hg) | apply List.mem_cons_of_mem)))); (case h => exact rfl); (case u => exact Nat.le_of_ble_eq_true rfl)); all_goals first
  | (intro hno S' so' ks' h' tk' F' N' l1 hs' hm'; (try k_lt l1); (try k_sweep))
  | (intro hbad h1' h' tk' e' F' N' x'; first | (exfalso; exact none_notin hbad) | (try k_sweep))))
local macro_rules | `(tactic| walk_at "call type:set") => `(tactic| (k_here; k_dflt (refine' set_things_CN ?F ?N ?m ?t ?g ?h ?e ?b ?n ?u ?_; (case F => k_asm); (case N => k_asm); (case h => exact rfl); (case b => assumption); (case m => first | k_mem | ((repeat apply List.mem_cons_of_mem); assumption)); (case e => k_mem); (case t => assumption); (case g => (intro a o hg; (repeat (first | exact hg | (rename (∀ p ∈ _, p ∈ _) => hg2; exact hg2 _ hg) | (rename (∀ p ∈ _, p ∈ _) => hg3; clear hg3; rename (∀ p ∈ _, p ∈ _) => hg2; exact hg2 _ hg) | apply List.mem_cons_of_mem)))); (case n => exact none_notin); (case u => exact Nat.le_of_ble_eq_true rfl)); intro S' so' ks' h' tk' F' N' l1 hs' hm'; (try k_lt l1); (try k_sweep)))
local macro_rules | `(tactic| walk_at "noteFrame ref") => `(tactic| (k_here; (rename BareAt _ _ => rkB); (rename RaisedN _ _ _ _ _ _ => rkX); k_dflt (refine caught_bare (by assumption) (by assumption) (by assumption) rkX rkB (by k_asm) ?_); intro h' oe' hbe' hne' F' N'; have l1 := allNe_of hne'; simp only [AllNe] at l1; (try k_sweep)))
local macro_rules | `(tactic| walk_at "getAttr ref") => `(tactic| (k_here; (with_reducible show wpAny _ _ (getAttr _ (Str.ofString "__contains__") _) _ _ _); k_dflt (refine' getAttr_hasK_N ?F ?N ?m ?s ?_; (case F => k_asm); (case N => k_asm); (case m => k_mem); (case s => assumption)); intro b' h' F' N' l1; (try k_lt l1); (try k_sweep)))
local macro_rules | `(tactic| walk_at "setAttr ref") => `(tactic| (k_here; k_dflt (refine' set_slot ?k1 ?k2 ?k3 ?k4 ?k5 ?k6 ?k7 ?k8 ?k9 ?k10 ?k11 ?k12 ?k13 ?_; (case k1 => k_asm); (case k2 => k_asm); (case k3 => k_asm); (case k4 => k_inst); (case k5 => k_is); (case k6 => k_is); (case k7 => k_is); (case k8 => k_is); (case k9 => k_is); (case k10 => decide); (case k11 => k_slotset); (case k12 => exact rfl); (case k13 => (first | (refine' Upd.head ?uc; (case uc => ((repeat (refine' List.forall_mem_cons.mpr ⟨by k_ne, ?_⟩)); first | exact List.forall_mem_nil _ | (rename _ < _ ∧ _ => q; first | ((repeat (first | exact allLt_ne q (by omega) | replace q := q.2)); done) | (clear q; rename _ < _ ∧ _ => q; first | ((repeat (first | exact allLt_ne q (by omega) | replace q := q.2)); done) | (clear q; rename _ < _ ∧ _ => q; first | ((repeat (first | exact allLt_ne q (by omega) | replace q := q.2)); done) | (clear q; rename _ < _ ∧ _ => q; ((repeat (first | exact allLt_ne q (by omega) | replace q := q.2)); done)))))))) | (refine' Upd.tail ?ua ?ub; (case ua => k_ne); (case ub => (refine' Upd.head ?uc; (case uc => ((repeat (refine' List.forall_mem_cons.mpr ⟨by k_ne, ?_⟩)); first | exact List.forall_mem_nil _ | (rename _ < _ ∧ _ => q; first | ((repeat (first | exact allLt_ne q (by omega) | replace q := q.2)); done) | (clear q; rename _ < _ ∧ _ => q; first | ((repeat (first | exact allLt_ne q (by omega) | replace q := q.2)); done) | (clear q; rename _ < _ ∧ _ => q; first | ((repeat (first | exact allLt_ne q (by omega) | replace q := q.2)); done) | (clear q; rename _ < _ ∧ _ => q; ((repeat (first | exact allLt_ne q (by omega) | replace q := q.2)); done)))))))))))); k_whole; intro h' F' N'; (try k_sweep))))
local macro_rules | `(tactic| walk_at "exec Try") => `(tactic| ((fail_if_success (rename HaltOff => hOff)); refine haltI ?_))
local macro_rules | `(tactic| walk_at "call builtin:len") => `(tactic| (k_here; k_dflt (refine' len_any ?N ?m ?z ?_; (case N => k_asm); (case m => first | k_mem | ((repeat apply List.mem_cons_of_mem); assumption)); (case z => first | omega | exact Nat.le_trans dueN_len (by omega) | (simp only [List.length_cons, List.length_append, List.length_nil]; omega))); intro t' tk' ht'))
local macro_rules | `(tactic| walk_at "own") => `(tactic| ((rename _ < _ ∧ _ => q); first | ((repeat (first | exact fun p hp => allLt_ne q (by omega) p hp | replace q := q.2)); done) | (clear q; walk_at "own")))
local macro_rules | `(tactic| walk_at "exec For Name Call cons nil") => `(tactic| ((fail_if_success (rename HaltOff => hOff)); refine haltI ?_))
local macro_rules | `(tactic| walk_at "exec For Name Call cons nil") => `(tactic| ((rename HaltOff => hOff); k_here; (rename Fr _ _ _ _ => lF'); (with_unfolding_all refine For_N lF' ?_)))
local macro_rules | `(tactic| walk_at "call type:range") => `(tactic| (k_here; (with_reducible show wpAny _ _ (call _ [_]) _ _ _); k_dflt (refine' range1_M ?F ?N ?_; (case F => k_asm); (case N => k_asm)); intro r' h' tk' t1' u1' v1' F' N' l1; (try k_lt l1); (try k_sweep)))
local macro_rules | `(tactic| walk_at "pyIter ref") => `(tactic| (k_here; (with_reducible show wpAny _ _ (pyIter (Value.ref _)) (ForAt _ _ _ _ _ _ _ _ _ _) _ _); k_dflt (refine' iter_range_N ?F ?N ?r ?s ?_; (case F => k_asm); (case N => k_asm); (case r => exact News.get (by k_asm) (by k_mem)); (case s => exact small_one (by omega) (by omega) (by omega) (by omega))); intro I' h' F' N' l1; (try k_lt l1); (try k_sweep)))
local macro_rules | `(tactic| walk_at "call builtin:next") => `(tactic| refine haltI ?_)
local macro_rules | `(tactic| walk_at "call builtin:list.append") => `(tactic| (k_here; k_dflt (refine' append_G ?F ?N ?U ?z ?_; (case F => k_asm); (case N => k_asm); (case U => k_upd); (case z => first | omega | exact Nat.le_trans dueN_len (by omega))); intro h' F' N'; (try k_sweep)))
local macro_rules | `(tactic| walk_at "exec For Name Name cons nil") => `(tactic| (k_here; (rename Fr _ _ _ _ => lF'); (with_unfolding_all refine For_N lF' ?_)))
local macro_rules | `(tactic| walk_at "pyIter ref") => `(tactic| (k_here; (with_reducible show wpAny _ _ (pyIter (Value.ref _)) (ForAt _ _ _ _ _ _ _ _ _ _) _ _); k_dflt (refine' pyIter_list_N ?F ?N ?m ?_; (case F => k_asm); (case N => k_asm); (case m => ((repeat apply List.mem_cons_of_mem); assumption))); intro I' h' F' N' l1; (try k_lt l1); (try k_sweep)))
local macro_rules | `(tactic| walk_at "call type:zip") => `(tactic| (k_here; k_dflt (refine' zip_compAt ?F ?N ?m1 ?m2 ?z ?hh ?self ?_; (case F => k_asm); (case N => k_asm); (case m1 => ((repeat apply List.mem_cons_of_mem); assumption)); (case m2 => k_mem); (case z => exact Nat.le_trans dueN_len (by omega)); (case hh => exact rfl); (case self => exact dueN_self rfl (by assumption))); intro D' n' h' tk' F' N' hne'; have l1 := allNe_of hne'; simp only [AllNe] at l1; (try k_sweep)))
local macro_rules | `(tactic| walk_at "eval ListComp") => `(tactic| (k_here; (with_reducible show wpAny _ _ (eval (Expr.ListComp (Expr.Compare _ _ _ _) [⟨Expr.Tuple _ _ _, _, [], _⟩] _ _) _) _ _ _); k_dflt (refine CompZ_eval (by with_unfolding_all rfl) (by decide) (by rfl) (by decide) (by rfl) (by rfl) (by decide) (by rfl) (by rfl) ?_)))
local macro_rules | `(tactic| walk_at "compareOp NotIn bool ref") => `(tactic| (k_here; k_dflt (first
  | (refine' false_notin ?N ?m ?_; (case N => k_asm); (case m => k_mem); k_whole)
  | (refine' notin_t ?U ?N ?m ?T ?no ?G ?v ?u ?k ?_; (case v => assumption); (case U => assumption); (case N => k_asm); (case T => assumption); (case m => ((repeat apply List.mem_cons_of_mem); assumption)); (case no => exact none_notin); (case G => ((intro a o g); ((repeat apply List.mem_cons_of_mem); ((rename (∀ (q : Addr × Obj), q ∈ _ → q ∈ _) => hg2); exact hg2 _ g)))); (case u => exact Nat.le_of_ble_eq_true rfl); (case k => assumption); k_whole)
  | (refine' notin_f ?U ?N ?m ?T ?no ?G ?v ?u ?k ?_; (case v => assumption); (case U => assumption); (case N => k_asm); (case T => assumption); (case m => ((repeat apply List.mem_cons_of_mem); assumption)); (case no => exact none_notin); (case G => ((intro a o g); ((repeat apply List.mem_cons_of_mem); ((rename (∀ (q : Addr × Obj), q ∈ _ → q ∈ _) => hg2); exact hg2 _ g)))); (case u => exact Nat.le_of_ble_eq_true rfl); (case k => assumption); k_whole))))
local macro_rules | `(tactic| walk_at "compareOp NotIn int ref") => `(tactic| (k_here; k_dflt (first
  | (refine' false_notin ?N ?m ?_; (case N => k_asm); (case m => k_mem); k_whole)
  | (refine' notin_t ?U ?N ?m ?T ?no ?G ?v ?u ?k ?_; (case v => assumption); (case U => assumption); (case N => k_asm); (case T => assumption); (case m => ((repeat apply List.mem_cons_of_mem); assumption)); (case no => exact none_notin); (case G => ((intro a o g); ((repeat apply List.mem_cons_of_mem); ((rename (∀ (q : Addr × Obj), q ∈ _ → q ∈ _) => hg2); exact hg2 _ g)))); (case u => exact Nat.le_of_ble_eq_true rfl); (case k => assumption); k_whole)
  | (refine' notin_f ?U ?N ?m ?T ?no ?G ?v ?u ?k ?_; (case v => assumption); (case U => assumption); (case N => k_asm); (case T => assumption); (case m => ((repeat apply List.mem_cons_of_mem); assumption)); (case no => exact none_notin); (case G => ((intro a o g); ((repeat apply List.mem_cons_of_mem); ((rename (∀ (q : Addr × Obj), q ∈ _ → q ∈ _) => hg2); exact hg2 _ g)))); (case u => exact Nat.le_of_ble_eq_true rfl); (case k => assumption); k_whole))))
local macro_rules | `(tactic| walk_at "compareOp NotIn str ref") => `(tactic| (k_here; k_dflt (first
  | (refine' false_notin ?N ?m ?_; (case N => k_asm); (case m => k_mem); k_whole)
  | (refine' notin_t ?U ?N ?m ?T ?no ?G ?v ?u ?k ?_; (case v => assumption); (case U => assumption); (case N => k_asm); (case T => assumption); (case m => ((repeat apply List.mem_cons_of_mem); assumption)); (case no => exact none_notin); (case G => ((intro a o g); ((repeat apply List.mem_cons_of_mem); ((rename (∀ (q : Addr × Obj), q ∈ _ → q ∈ _) => hg2); exact hg2 _ g)))); (case u => exact Nat.le_of_ble_eq_true rfl); (case k => assumption); k_whole)
  | (refine' notin_f ?U ?N ?m ?T ?no ?G ?v ?u ?k ?_; (case v => assumption); (case U => assumption); (case N => k_asm); (case T => assumption); (case m => ((repeat apply List.mem_cons_of_mem); assumption)); (case no => exact none_notin); (case G => ((intro a o g); ((repeat apply List.mem_cons_of_mem); ((rename (∀ (q : Addr × Obj), q ∈ _ → q ∈ _) => hg2); exact hg2 _ g)))); (case u => exact Nat.le_of_ble_eq_true rfl); (case k => assumption); k_whole))))
local macro_rules | `(tactic| walk_at "compareOp NotIn ref ref") => `(tactic| (k_here; k_dflt (first
  | (refine' false_notin ?N ?m ?_; (case N => k_asm); (case m => k_mem); k_whole)
  | (refine' notin_t ?U ?N ?m ?T ?no ?G ?v ?u ?k ?_; (case v => assumption); (case U => assumption); (case N => k_asm); (case T => assumption); (case m => ((repeat apply List.mem_cons_of_mem); assumption)); (case no => exact none_notin); (case G => ((intro a o g); ((repeat apply List.mem_cons_of_mem); ((rename (∀ (q : Addr × Obj), q ∈ _ → q ∈ _) => hg2); exact hg2 _ g)))); (case u => exact Nat.le_of_ble_eq_true rfl); (case k => assumption); k_whole)
  | (refine' notin_f ?U ?N ?m ?T ?no ?G ?v ?u ?k ?_; (case v => assumption); (case U => assumption); (case N => k_asm); (case T => assumption); (case m => ((repeat apply List.mem_cons_of_mem); assumption)); (case no => exact none_notin); (case G => ((intro a o g); ((repeat apply List.mem_cons_of_mem); ((rename (∀ (q : Addr × Obj), q ∈ _ → q ∈ _) => hg2); exact hg2 _ g)))); (case u => exact Nat.le_of_ble_eq_true rfl); (case k => assumption); k_whole))))
theorem PySem.Challenge.cw_kn0115_03_holds : PySem.Challenge.rw_kn0115_03.Holds := by
  refine Mine.hd ?_
  k_go0
  all_goals try k_fold
  k_steps
  all_goals first | (exfalso; (rename _ < (0 : Int) => hneg); exact absurd hneg (Int.not_lt.mpr (cut_nn3 _))) | skip
  rename Fr _ _ _ _ => F1
  rename News _ _ _ _ => N1
  rename IntsAre _ _ => hI1
  refine CompAtT.of thF F1 N1 (by k_mem) hI1 (by rw [IntsAre.length hI1]; omega) rfl (compFinT_none F1 N1 ?_) ?_
  rotate_left
  · clear F1 N1
    intro C D oD a t h tk m₃ E' g d o ha FC F1 N1 hm3
    k_steps
    all_goals first
      | exact ⟨_, _, rfl, by assumption⟩
      | exact thing_boo (by assumption)
      | exact thing_str (by assumption) (by assumption)
      | exact thing_int (by assumption) (by assumption) (by assumption) (by assumption) (Nat.succ_ne_zero _)
      | ((rename News _ _ _ _ => N2); exact thing_lst (by assumption) ⟨⟨(N2 _ (by k_mem)).1, (N2 _ (by k_mem)).2.2⟩, by k_ne⟩)
      | ((rename News _ _ _ _ => N2); exact thing_tup (by assumption) ⟨⟨(N2 _ (by k_mem)).1, (N2 _ (by k_mem)).2.2⟩, by k_ne⟩)
  clear F1 N1
  intro D1 ys1 n1 h tk own1 F1 N1 hne1 hT1
  simp only [List.cons_append, List.nil_append] at N1
  have l9 := allNe_of hne1
  simp only [AllNe, and_true] at l9
  have hl1 := hT1.len
  rw [List.length_map] at hl1
  k_steps
  rename Fr _ _ _ _ => F1
  rename News _ _ _ _ => N1
  rename IntsAre _ (List.drop _ _) => hI2
  have hil2 := IntsAre.length hI2
  refine CompAtT.of thF F1 N1 (by k_mem) hI2 (by omega) rfl (compFinT_store F1 N1 rfl rfl rfl ?_) ?_
  rotate_left
  · clear F1 N1
    intro C D oD a t h tk m₃ E' g d o ha FC F1 N1 hm3
    k_steps
    all_goals first
      | exact ⟨_, _, rfl, by assumption⟩
      | exact thing_boo (by assumption)
      | exact thing_str (by assumption) (by assumption)
      | exact thing_int (by assumption) (by assumption) (by assumption) (by assumption) (Nat.succ_ne_zero _)
      | ((rename News _ _ _ _ => N2); exact thing_lst (by assumption) ⟨⟨(N2 _ (by k_mem)).1, (N2 _ (by k_mem)).2.2⟩, by k_ne⟩)
      | ((rename News _ _ _ _ => N2); exact thing_tup (by assumption) ⟨⟨(N2 _ (by k_mem)).1, (N2 _ (by k_mem)).2.2⟩, by k_ne⟩)
  clear F1 N1
  intro D2 ys2 n2 h tk own2 F1 N1 hne2 hT2
  simp only [List.cons_append, List.nil_append] at N1
  have l9 := allNe_of hne2
  simp only [AllNe, and_true] at l9
  have hl2 := hT2.len
  rw [List.length_map] at hl2
  obtain ⟨ownB, N2, hp, hq, hs1, hs2⟩ := split8 N1
  clear N1
  obtain ⟨items, rt, N2, hR, hil⟩ := abs_row N2 (row_ths (G := fun a o => (a, o) ∈ ownB) hq hp (hT1.mono hs1)) (by simp only [List.length_append, List.length_cons, List.length_nil]; omega)
  obtain ⟨bt, hB, hbl⟩ := ths_abs (hT2.mono hs2)
  clear hT1 hT2
  k_steps
  rename Fr _ _ _ _ => F1
  rename News _ _ _ _ => N1
  have hU : Uniq (fun a o => (a, o) ∈ ownB) := uniq_of N1 (fun p hp => by repeat (first | exact hp | apply List.mem_cons_of_mem))
  refine comp_plain hU F1 N1 (by k_mem) hB (by omega) rfl rfl (fun _ => rfl) (by decide) (compFin_store F1 N1 rfl rfl rfl ?_) ?_
  rotate_left
  · clear F1 N1
    intro C v th h tk m₃ E' g d o hv F1 N1 hm3
    cases hv with
    | lst n t c a ga =>
      k_steps
      all_goals first | rfl | exact ⟨_, _, rfl, fun _ _ e => e⟩
    | key y =>
      cases y with
      | int n t ht =>
        k_steps
        all_goals first | rfl | exact ⟨_, _, rfl, fun _ _ e => e⟩
      | boo b n e =>
        k_steps
        all_goals first | rfl | exact ⟨_, _, rfl, fun _ _ e => e⟩
      | str n t ht =>
        k_steps
        all_goals first | rfl | exact ⟨_, _, rfl, fun _ _ e => e⟩
      | tup n t a ga =>
        k_steps
        all_goals first | rfl | exact ⟨_, _, rfl, fun _ _ e => e⟩
  clear F1 N1
  intro D3 ys3 n3 h tk F1 N1 hne3 hT3
  have l9 := allNe_of hne3
  simp only [AllNe] at l9
  have hT4 := hT3.1
  have hl3 := hT3.2
  have hl4 := hT4.len
  k_steps
  rename Fr _ _ _ _ => F1
  rename News _ _ _ _ => N1
  unfold Halt
  refine cut1 ownB (hasNone bt) F1 N1 ?_ ?_
  · have hOff : HaltOff := trivial
    k_steps
    · rename ¬ (none ∈ _) => hno
      rw [hasNone_f hno]
      rename Fr _ _ _ _ => F1
      rename News _ _ _ _ => N1
      refine mid1_of F1 N1 ?_ (by k_mem) ?_ ?_ ?_ (by walk_at "own")
      · intro y
        by_cases hy : y = Str.ofString "refused"
        · rw [if_pos hy, if_pos hy]
        · rw [if_neg hy, if_neg hy]
      · intro p hp
        simp only [List.mem_cons, List.not_mem_nil, or_false] at hp
        rcases hp with rfl | rfl | rfl <;> k_mem
      · intro p hp
        simp only [List.mem_cons, List.not_mem_nil, or_false] at hp
        rcases hp with rfl | rfl | rfl <;> k_ne
      · intro p hp
        repeat (first | exact hp | apply List.mem_cons_of_mem)
    · rename none ∈ _ => hbad
      rw [hasNone_t hbad]
      rename Fr _ _ _ _ => F1
      rename News _ _ _ _ => N1
      refine mid1_of F1 N1 (fun _ => rfl) (by k_mem) ?_ ?_ ?_ (by walk_at "own")
      · intro p hp
        simp only [List.mem_cons, List.not_mem_nil, or_false] at hp
        rcases hp with rfl | rfl | rfl <;> k_mem
      · intro p hp
        simp only [List.mem_cons, List.not_mem_nil, or_false] at hp
        rcases hp with rfl | rfl | rfl <;> k_ne
      · intro p hp
        repeat (first | exact hp | apply List.mem_cons_of_mem)
  · clear F1 N1
    intro h tk own F1 N1 hoff m3 m2 mr hown
    have hlB := hB.len
    k_steps
    · rename ((_ != _) = true) => hq
      exact absurd hq (by rw [hasNone_ne hlB hl4]; exact Bool.false_ne_true)
    rename Fr _ _ _ _ => F1
    rename News _ _ _ _ => N1
    unfold Halt
    refine cut2 own (fun mk => dueN mk (keysOf (bt.filter (·.isSome))) items rt items.length) F1 ⟨rfl, rfl, rfl, rfl, rfl⟩ ?_ ?_
    · have hOff : HaltOff := trivial
      k_steps
      rename Fr _ _ _ _ => F1
      rename News _ _ _ _ => N1
      rename SetK _ _ _ _ => hSK
      rename (∀ j, j ∈ _ ↔ some j ∈ _) => hSm
      refine law3_for (G := fun a o => (a, o) ∈ ownB) (items := items) (ths := rt) (pt := bt.filter (·.isSome)) (base := own) F1 N1 (by k_mem) rfl (by k_mem) (by k_mem) rfl rfl ⟨rfl, rfl, rfl, rfl, rfl⟩ ⟨rfl, rfl⟩ ⟨by k_mem, by k_mem, by k_mem, by k_mem, hSK, hSm⟩ ?_ ?_ ⟨⟨by k_ne, by k_ne, by k_ne⟩, ⟨by k_ne, by k_ne, by k_ne⟩, ⟨by k_ne, by k_ne, by k_ne⟩, ⟨by k_ne, by k_ne, by k_ne⟩⟩ ⟨by k_ne, by k_ne, by k_ne⟩ ?_
      · intro p hp
        repeat (first | exact hp | apply List.mem_cons_of_mem)
      · intro p hp
        refine ⟨?_, hoff p hp _ (.head _), ?_⟩
        all_goals (revert p; walk_at "own")
      clear F1 N1
      intro k i tn m oI so own3 fx dx b S ks t h tk hki hin hm hn hoff3 hIl hbase hff F1 N1
      have hnt := hn.told
      have hnm := hn.mark
      have hns := hn.source
      have hnp := hn.plain
      have hnr := hn.row
      k_steps
      rename Fr _ _ _ _ => F1
      rename News _ _ _ _ => N1
      unfold Halt
      have hsubB : ∀ p ∈ ownB, p ∈ own3 := fun p hp => hbase p (hown p hp)
      have m3' := hbase _ m3
      refine next_turn (G := fun a o => (a, o) ∈ ownB) (items := items) (ths := rt) F1 N1 ⟨by k_ne, by k_ne⟩ hoff3 (by assumption) (topRead_of (by assumption)) (by assumption) rfl rfl rfl rfl (by k_room) (Nat.le_of_ble_eq_true rfl) hIl (hbase _ mr) hR (fun a o g => hsubB _ g) hff hin ?_ ?_ ?_
      · clear F1 N1
        intro j v y h tk oI' hij hj hv hth hy hsk hIl' F1 N1
        obtain ⟨th', e1, e2⟩ := hR.at' j v hv
        rw [hth] at e1
        cases e1
        cases e2 with
        | key yy =>
          cases yy
          all_goals (
            k_steps
            rename Fr _ _ _ _ => F1
            rename News _ _ _ _ => N1
            exact law3_turn_end (j := j) F1 N1 (by k_mem) (by k_mem) (by k_mem) (dueN_key hR.len hij hv hth hy hsk).symm hki hij hj (Eq.trans (if_neg (by decide)) (Eq.trans (if_neg (by decide)) hm)) (names3_over (names3_over hn ⟨by decide, by decide, by decide, by decide, by decide⟩) ⟨by decide, by decide, by decide, by decide, by decide⟩) hIl' (hff.mono (fun p hp => by repeat (first | exact hp | apply List.mem_cons_of_mem))) (fun p hp => by repeat (first | exact hbase p hp | apply List.mem_cons_of_mem)) (fun p hp => off3 hoff3 (hbase p hp)) ⟨off3 hoff3 hff.x, off3 hoff3 hff.d, off3 hoff3 hff.b, off3 hoff3 hff.s⟩)
      · clear F1 N1
        intro j e h tk oI' g hij hj hth hsk hIl' Fg R U V
        k_steps
        rename Fr _ _ _ _ => F1
        rename News _ _ _ _ => N1
        rename SetK _ _ _ _ => hSK'
        rename (∀ j, j ∈ _ ↔ some j ∈ _) => hSm'
        refine law3_turn_end (j := j) F1 N1 (by k_mem) (by k_mem) (by k_mem) (dueN_lst hR.len hij hj hth hsk).symm hki hij hj (if_pos rfl) (names3_over (names3_over (names3_over hn ⟨by decide, by decide, by decide, by decide, by decide⟩) ⟨by decide, by decide, by decide, by decide, by decide⟩) ⟨by decide, by decide, by decide, by decide, by decide⟩) hIl' ⟨by k_mem, by k_mem, by k_mem, by k_mem, hSK', hSm'⟩ (fun p hp => by repeat (first | exact hbase p hp | apply List.mem_cons_of_mem)) (fun p hp => off3 hoff3 (hbase p hp)) ?_
        exact ⟨⟨by k_ne, by k_ne, by k_ne⟩, ⟨by k_ne, by k_ne, by k_ne⟩, ⟨by k_ne, by k_ne, by k_ne⟩, ⟨by k_ne, by k_ne, by k_ne⟩⟩
      · clear F1 N1
        intro h tk hsk F1 N1
        k_steps
        rename Fr _ _ _ _ => F1
        rename News _ _ _ _ => N1
        show _ ∧ _
        exact ⟨rfl, mid2_of F1 N1 (names3_over (names3_over hn ⟨by decide, by decide, by decide, by decide, by decide⟩) ⟨by decide, by decide, by decide, by decide, by decide⟩) (by k_mem) (dueN_to hR.len hin (Nat.le_refl _) hsk) (fun p hp => by repeat (first | exact hbase p hp | apply List.mem_cons_of_mem))⟩
    · clear F1 N1
      intro h tk m tn own2 F1 N1 hn hTD hown2
      have hnt := hn.told
      have hnm := hn.mark
      have hnp := hn.plain
      have hnr := hn.row
      have mr2 := hown2 _ mr
      have N2 := news_dup N1 hTD
      clear N1
      k_steps
      rename Fr _ _ _ _ => F1
      rename News _ _ _ _ => N1
      refine law3_due (G := fun a o => (a, o) ∈ ownB) (items := items) (ths := rt) (ks := keysOf (bt.filter (·.isSome))) (base := own2) F1 N1 (by k_mem) (by k_mem) mr2 hR rfl rfl (names3_over hn ⟨by decide, by decide, by decide, by decide, by decide⟩) ?_ ?_ (by k_ne) ?_ ?_
      · intro p hp
        repeat (first | exact hp | apply List.mem_cons_of_mem)
      · intro p hp
        refine ⟨?_, ?_⟩
        all_goals (revert p; walk_at "own")
      · clear F1 N1
        intro i c v th m oI own4 h tk hi hv hth hin hm hn hoff4 hIl hbase F1 N1
        have hnt := hn.told
        have hnm := hn.mark
        have hnp := hn.plain
        have hnr := hn.row
        have hne4 : AllNe _ own4 := allNe_of fun p hp => hoff4 p hp _ (.head _)
        have hGn : ∀ (q : Addr × Obj), q ∈ ownB → q ∈ own4 := fun p hp => hbase p (hown2 p (hown p hp))
        have hm34 := hbase _ (hown2 _ m3)
        cases hin with
        | lst n t cc a g =>
          have g4 := hGn _ g
          k_steps
          rename Fr _ _ _ _ => F1
          rename News _ _ _ _ => N1
          exact law3_due_end F1 N1 (by k_mem) (by k_mem) (dueN_lst hR.len (Nat.le_refl _) hi hth skips_refl).symm hi (Eq.trans (if_neg (by decide)) hm) (names3_over hn ⟨by decide, by decide, by decide, by decide, by decide⟩) hIl (fun p hp => by repeat (first | exact hbase p hp | apply List.mem_cons_of_mem)) (fun p hp => ⟨hoff4 p (hbase p hp) _ (.head _), hoff4 p (hbase p hp) _ (.tail _ (.head _))⟩)
        | key y =>
          rename_i k
          have hky := y
          by_cases hk : k ∈ keysOf (bt.filter (·.isSome))
          · cases y with
            | int n t ht =>
              k_steps
              rename Fr _ _ _ _ => F1
              rename News _ _ _ _ => N1
              exact law3_due_end F1 N1 (by k_mem) (by k_mem) (dueN_to hR.len (Nat.le_succ _) hi (skips_one hth hk)).symm hi (Eq.trans (if_neg (by decide)) hm) (names3_over hn ⟨by decide, by decide, by decide, by decide, by decide⟩) hIl (fun p hp => by repeat (first | exact hbase p hp | apply List.mem_cons_of_mem)) (fun p hp => ⟨hoff4 p (hbase p hp) _ (.head _), hoff4 p (hbase p hp) _ (.tail _ (.head _))⟩)
            | boo b n e =>
              k_steps
              rename Fr _ _ _ _ => F1
              rename News _ _ _ _ => N1
              exact law3_due_end F1 N1 (by k_mem) (by k_mem) (dueN_to hR.len (Nat.le_succ _) hi (skips_one hth hk)).symm hi (Eq.trans (if_neg (by decide)) hm) (names3_over hn ⟨by decide, by decide, by decide, by decide, by decide⟩) hIl (fun p hp => by repeat (first | exact hbase p hp | apply List.mem_cons_of_mem)) (fun p hp => ⟨hoff4 p (hbase p hp) _ (.head _), hoff4 p (hbase p hp) _ (.tail _ (.head _))⟩)
            | str n t ht =>
              k_steps
              rename Fr _ _ _ _ => F1
              rename News _ _ _ _ => N1
              exact law3_due_end F1 N1 (by k_mem) (by k_mem) (dueN_to hR.len (Nat.le_succ _) hi (skips_one hth hk)).symm hi (Eq.trans (if_neg (by decide)) hm) (names3_over hn ⟨by decide, by decide, by decide, by decide, by decide⟩) hIl (fun p hp => by repeat (first | exact hbase p hp | apply List.mem_cons_of_mem)) (fun p hp => ⟨hoff4 p (hbase p hp) _ (.head _), hoff4 p (hbase p hp) _ (.tail _ (.head _))⟩)
            | tup n t a g =>
              have g4 := hGn _ g
              k_steps
              rename Fr _ _ _ _ => F1
              rename News _ _ _ _ => N1
              exact law3_due_end F1 N1 (by k_mem) (by k_mem) (dueN_to hR.len (Nat.le_succ _) hi (skips_one hth hk)).symm hi (Eq.trans (if_neg (by decide)) hm) (names3_over hn ⟨by decide, by decide, by decide, by decide, by decide⟩) hIl (fun p hp => by repeat (first | exact hbase p hp | apply List.mem_cons_of_mem)) (fun p hp => ⟨hoff4 p (hbase p hp) _ (.head _), hoff4 p (hbase p hp) _ (.tail _ (.head _))⟩)
          · cases y with
            | int n t ht =>
              k_steps
              rename Fr _ _ _ _ => F1
              rename News _ _ _ _ => N1
              exact law3_due_end F1 N1 (by k_mem) (by k_mem) (dueN_key hR.len (Nat.le_refl _) hv hth hk skips_refl).symm hi (Eq.trans (if_neg (by decide)) hm) (names3_over hn ⟨by decide, by decide, by decide, by decide, by decide⟩) hIl (fun p hp => by repeat (first | exact hbase p hp | apply List.mem_cons_of_mem)) (fun p hp => ⟨hoff4 p (hbase p hp) _ (.head _), hoff4 p (hbase p hp) _ (.tail _ (.head _))⟩)
            | boo b n e =>
              k_steps
              rename Fr _ _ _ _ => F1
              rename News _ _ _ _ => N1
              exact law3_due_end F1 N1 (by k_mem) (by k_mem) (dueN_key hR.len (Nat.le_refl _) hv hth hk skips_refl).symm hi (Eq.trans (if_neg (by decide)) hm) (names3_over hn ⟨by decide, by decide, by decide, by decide, by decide⟩) hIl (fun p hp => by repeat (first | exact hbase p hp | apply List.mem_cons_of_mem)) (fun p hp => ⟨hoff4 p (hbase p hp) _ (.head _), hoff4 p (hbase p hp) _ (.tail _ (.head _))⟩)
            | str n t ht =>
              k_steps
              rename Fr _ _ _ _ => F1
              rename News _ _ _ _ => N1
              exact law3_due_end F1 N1 (by k_mem) (by k_mem) (dueN_key hR.len (Nat.le_refl _) hv hth hk skips_refl).symm hi (Eq.trans (if_neg (by decide)) hm) (names3_over hn ⟨by decide, by decide, by decide, by decide, by decide⟩) hIl (fun p hp => by repeat (first | exact hbase p hp | apply List.mem_cons_of_mem)) (fun p hp => ⟨hoff4 p (hbase p hp) _ (.head _), hoff4 p (hbase p hp) _ (.tail _ (.head _))⟩)
            | tup n t a g =>
              have g4 := hGn _ g
              k_steps
              rename Fr _ _ _ _ => F1
              rename News _ _ _ _ => N1
              exact law3_due_end F1 N1 (by k_mem) (by k_mem) (dueN_key hR.len (Nat.le_refl _) hv hth hk skips_refl).symm hi (Eq.trans (if_neg (by decide)) hm) (names3_over hn ⟨by decide, by decide, by decide, by decide, by decide⟩) hIl (fun p hp => by repeat (first | exact hbase p hp | apply List.mem_cons_of_mem)) (fun p hp => ⟨hoff4 p (hbase p hp) _ (.head _), hoff4 p (hbase p hp) _ (.tail _ (.head _))⟩)
      · clear F1 N1
        intro c m own4 h tk hm hn hoff4 hbase F1 N1
        have hnt := hn.told
        have hTD4 := hbase _ hTD
        k_steps
