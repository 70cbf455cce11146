import PyProof.Rows.All
import Wide.All
import OpenK.AllK
import Wide.FinOn
import PySem.Challenge.RW_gz0002_01
open PySem PySem.W PyProof.Rows
set_option Elab.async false
set_option maxRecDepth 100000
set_option maxHeartbeats 8000000

namespace Mine
set_option maxHeartbeats 0 in
open_top hd for PySem.Challenge.rw_gz0002_01
end Mine

namespace Mine
open PySem.Calls PyProof.V PySem.Spec

/-- a key's part: a text or an int -/
inductive Part where
  | s (x : Str)
  | i (n : Int)
  deriving DecidableEq

noncomputable def Part.is : Part → Value → Bool
  | .s x, v => Value.isStrOf x v
  | .i n, v => Value.isInt n v

noncomputable def Part.hash (w : World) : Part → Int
  | .s x => hashStr w x
  | .i n => hashInt n

section
variable (prog : Program) (w : World)
noncomputable def partKind : KeyKind prog w Part where
  is := Part.is
  hash := Part.hash w
  inj := fun v a b ha hb => by
    cases a <;> cases b
    · rw [Value.isStrOf_inj v _ _ ha hb]
    · obtain ⟨t, h1⟩ := Value.isStrOf_shape ha
      obtain ⟨u, h2⟩ := Value.isInt_shape hb
      rw [h1] at h2; cases h2
    · obtain ⟨t, h1⟩ := Value.isInt_shape ha
      obtain ⟨u, h2⟩ := Value.isStrOf_shape hb
      rw [h1] at h2; cases h2
    · rw [Value.isInt_inj v _ _ ha hb]
  byValue := fun k v h => by
    cases k
    · obtain ⟨t, rfl⟩ := Value.isStrOf_shape h; rfl
    · obtain ⟨t, rfl⟩ := Value.isInt_shape h; rfl
  pyHash := fun {A E s k v Q} hv h => by
    cases k
    · obtain ⟨t, rfl⟩ := Value.isStrOf_shape hv; exact wpAny_pyHash_str h
    · obtain ⟨t, rfl⟩ := Value.isInt_shape hv; exact wpAny_pyHash_int h
  eqBool := fun {A E s a b u v Q} hu hv h => by
    cases a <;> cases b
    · obtain ⟨t, rfl⟩ := Value.isStrOf_shape hu
      obtain ⟨t', rfl⟩ := Value.isStrOf_shape hv
      exact wpAny_eqBool_str (by simpa using h)
    · obtain ⟨t, rfl⟩ := Value.isStrOf_shape hu
      obtain ⟨t', rfl⟩ := Value.isInt_shape hv
      exact SeqAt.EqAt.str_int _ _ _ _ prog w E Q (by simpa using h)
    · obtain ⟨t, rfl⟩ := Value.isInt_shape hu
      obtain ⟨t', rfl⟩ := Value.isStrOf_shape hv
      exact SeqAt.EqAt.int_str _ _ _ _ prog w E Q (by simpa using h)
    · obtain ⟨t, rfl⟩ := Value.isInt_shape hu
      obtain ⟨t', rfl⟩ := Value.isInt_shape hv
      refine wpAny_eqBool_int ?_
      have e : ∀ a b : Int, decide (Part.i a = Part.i b) = (a == b) := fun a b => by by_cases q : a = b <;> simp [q]
      rw [e] at h; exact h
  «strs» := fun k x t v h => by
    cases k with
    | s y =>
      obtain ⟨u, hu⟩ := Value.isStrOf_shape (show Value.isStrOf y (.str x t) = true from h)
      injection hu with hx
      subst hx
      cases v <;> rfl
    | i n =>
      obtain ⟨u, hu⟩ := Value.isInt_shape (show Value.isInt n (.str x t) = true from h)
      cases hu

noncomputable def kAt : Str := Str.ofString "at"
noncomputable def kSum : Str := Str.ofString "sum"
noncomputable def key3 (n : Int) : List Part := [.s kAt, .i n, .s kSum]
theorem key3_inj {a b : Int} (h : key3 a = key3 b) : a = b := by
  simp only [key3, List.cons.injEq, Part.i.injEq, true_and, and_true] at h
  exact h

noncomputable def atKind : HeapKind prog w Int where
  is := fun h n a => (tupleKind (partKind prog w)).is h (key3 n) a
  hash := fun n => (tupleKind (partKind prog w)).hash (key3 n)
  draws := fun n => 4
  room := (tupleKind (partKind prog w)).room
  inj := fun hx hy => key3_inj ((tupleKind (partKind prog w)).inj hx hy)
  keeps := fun x ho hd hs => (tupleKind (partKind prog w)).keeps x ho hd hs
  pyHash := fun hu hk h => (tupleKind (partKind prog w)).pyHash hu hk h
  eqBool := fun {A E s x y a b Q} hu hx hy h => (tupleKind (partKind prog w)).eqBool hu hx hy (by
    have e : decide (key3 x = key3 y) = decide (x = y) := by
      by_cases q : x = y
      · subst q; simp
      · rw [decide_eq_false q, decide_eq_false fun z => q (key3_inj z)]
    rw [e]; exact h)
  quiet := fun hk h => (tupleKind (partKind prog w)).quiet hk h
end
end Mine

namespace Mine
open PySem.Calls PyProof.V PySem.Spec

/-- a dict object whose entries are es, whatever its keys -/
structure RawD (o : Obj) (es : Array DictEntry) (ep : Nat) : Prop where
  x : o.ExactDict
  d : o.data = .dict es ep

theorem RawD.typeIs {o : Obj} {es : Array DictEntry} {ep : Nat} (r : RawD o es ep) {s : Shared} {d : Addr} (h : s.heap.get? d = some o) : s.TypeIs (.ref d) "dict" := ⟨o, h, r.x.1⟩
theorem RawD.noDict {o : Obj} {es : Array DictEntry} {ep : Nat} (r : RawD o es ep) {hp : Heap} {d : Addr} (h : hp.get? d = some o) : ∀ b, Value.ref d = .ref b → ∃ ob, hp.get? b = some ob ∧ ob.dict = none :=
  fun b e => by injection e with e; subst e; exact ⟨o, h, r.x.2.1⟩

section
variable {prog : Program} {w : World} {A : Around} {E : Value → Shared → Prop} {s : Shared} {d : Addr} {od : Obj} {es : Array DictEntry} {ep : Nat}

theorem rd_method {name : Str} {id : String} {pl : Sem Bool} {Q : Value × List Value → Shared → Prop} (slot : Slot "dict" name id) (hty : typeOf (.builtin id) = pure (.type "method_descriptor"))
    (ho : s.heap.get? d = some od) (r : RawD od es ep) (h : Q (.builtin id, [.ref d]) s) : wpAny (model prog w) A (getMethod (.ref d) name pl) Q E s :=
  getMethod_builtin (r.typeIs ho) PySem.F.plainAttrs_dict slot hty (r.noDict ho) h

theorem rd_meets_items (d : Addr) (hd : (d == sysModules) = false) :
    MeetsIn prog w (Builtin.«dict.items» ⟨[.ref d], []⟩) (fun _ R s => (s.TypeIs (.ref d) "dict") ∧
      R (.ok (.ret (.ref s.heap.objs.size))) { s with heap := s.heap.push { cls := .type "dict_items", data := .fields #[.ref d] } }) :=
  .of_wp fun A R s ⟨hT, h⟩ => by
    unfold Builtin.«dict.items»
    refine wpAny_bind ?_
    unfold Builtin.Dict.noArgs
    refine wpAny_bind (wpAny_notOrdered_dict hT ?_)
    show wpAny _ _ (pure d) _ _ s
    refine wpAny_pure ?_
    show wpAny _ _ (Builtin.Dict.showsAll d >>= _) _ _ s
    unfold Builtin.Dict.showsAll
    rw [if_neg (by rw [hd]; exact Bool.false_ne_true)]
    refine wpAny_bind (wpAny_pure ?_)
    exact wpAny_bind (wpAny_newObj_type (wpAny_pure ⟨_, rfl, h⟩))
theorem rd_meets_values (d : Addr) (hd : (d == sysModules) = false) :
    MeetsIn prog w (Builtin.«dict.values» ⟨[.ref d], []⟩) (fun _ R s => (s.TypeIs (.ref d) "dict") ∧
      R (.ok (.ret (.ref s.heap.objs.size))) { s with heap := s.heap.push { cls := .type "dict_values", data := .fields #[.ref d] } }) :=
  .of_wp fun A R s ⟨hT, h⟩ => by
    unfold Builtin.«dict.values»
    refine wpAny_bind ?_
    unfold Builtin.Dict.noArgs
    refine wpAny_bind (wpAny_notOrdered_dict hT ?_)
    show wpAny _ _ (pure d) _ _ s
    refine wpAny_pure ?_
    show wpAny _ _ (Builtin.Dict.showsAll d >>= _) _ _ s
    unfold Builtin.Dict.showsAll
    rw [if_neg (by rw [hd]; exact Bool.false_ne_true)]
    refine wpAny_bind (wpAny_pure ?_)
    exact wpAny_bind (wpAny_newObj_type (wpAny_pure ⟨_, rfl, h⟩))

theorem rd_call_items {Q : Value → Shared → Prop} (hd : (d == sysModules) = false) (ho : s.heap.get? d = some od) (r : RawD od es ep)
    (h : Q (.ref s.heap.objs.size) { s with heap := s.heap.push { cls := .type "dict_items", data := .fields #[.ref d] } }) :
    wpAny (model prog w) A (call (.builtin "dict.items") [.ref d]) Q E s :=
  call_meetsIn PySem.F.slot_dict_items (r.typeIs ho) PySem.F.entry_dict_items (PySem.F.args_dict_items_1 _) (rd_meets_items d hd) ⟨r.typeIs ho, h⟩
theorem rd_call_values {Q : Value → Shared → Prop} (hd : (d == sysModules) = false) (ho : s.heap.get? d = some od) (r : RawD od es ep)
    (h : Q (.ref s.heap.objs.size) { s with heap := s.heap.push { cls := .type "dict_values", data := .fields #[.ref d] } }) :
    wpAny (model prog w) A (call (.builtin "dict.values") [.ref d]) Q E s :=
  call_meetsIn PySem.F.slot_dict_values (r.typeIs ho) PySem.F.entry_dict_values (PySem.F.args_dict_values_1 _) (rd_meets_values d hd) ⟨r.typeIs ho, h⟩

theorem rd_iter_items {v : Addr} {Q : Value → Shared → Prop} (hv : s.heap.IsItemsView v d) (ho : s.heap.get? d = some od) (r : RawD od es ep)
    (hQ : Q (.ref s.heap.objs.size) { s with heap := s.heap.push { cls := .type "dict_itemiterator", data := .fields #[.none, .bool false, .ref d, .int 0 0, .int es.size 0, .int ep 0, .none, .none] } }) :
    wpAny (model prog w) A (pyIter (.ref v)) Q E s := by
  obtain ⟨ov, hov, hcv, hdv⟩ := id hv
  refine wpAny_pyIter_slot hv.typeIs PySem.F.slot_dict_items_iter (wpAny_call_entry PySem.F.slot_dict_items_iter hv.typeIs PySem.F.entry_dict_items_iter ?_ (PySem.F.args_dict_items_iter_1 _))
  unfold Builtin.«dict_items.__iter__»
  refine wpAny_bind (wpAny_pure ?_)
  refine wpAny_bind ?_
  unfold Builtin.Dict_items.dictOf
  refine wpAny_bind (wpAny_field hov hdv (x := .ref d) rfl (wpAny_pure ?_))
  refine wpAny_bind ?_
  unfold Builtin.Dict_items.newIterator
  refine wpAny_bind (wpAny_dictEntries ho r.d ?_)
  refine wpAny_bind (wpAny_dictEpoch ho r.d ?_)
  have hown : Builtin.Dict_items.ownsTuple "dict_itemiterator" = true := by decide
  simp only [hown, if_true]
  refine wpAny_newObj_type (wpAny_pure ⟨_, rfl, "dict_itemiterator", _, ⟨_, Heap.get?_push_size _ rfl, rfl⟩, PySem.F.slot_dict_itemiterator_next.lookup, ?_⟩)
    (by simp only [sizeOk, Builtin.Dict_items.ownedTupleFields, List.size_toArray, List.length_append, List.length_cons, List.length_nil, sizeLine_eq]; omega)
  simpa [rawInt, Builtin.Dict_items.ownedTupleFields] using hQ
theorem rd_iter_values {v : Addr} {Q : Value → Shared → Prop} (hv : s.heap.IsValuesView v d) (ho : s.heap.get? d = some od) (r : RawD od es ep)
    (hQ : Q (.ref s.heap.objs.size) { s with heap := s.heap.push { cls := .type "dict_valueiterator", data := .fields #[.ref d, .int 0 0, .int es.size 0, .int ep 0] } }) :
    wpAny (model prog w) A (pyIter (.ref v)) Q E s := by
  obtain ⟨ov, hov, hcv, hdv⟩ := id hv
  refine wpAny_pyIter_slot hv.typeIs PySem.F.slot_dict_values_iter (wpAny_call_entry PySem.F.slot_dict_values_iter hv.typeIs PySem.F.entry_dict_values_iter ?_ (PySem.F.args_dict_values_iter_1 _))
  unfold Builtin.«dict_values.__iter__»
  refine wpAny_bind (wpAny_pure ?_)
  refine wpAny_bind ?_
  unfold Builtin.Dict_items.dictOf
  refine wpAny_bind (wpAny_field hov hdv (x := .ref d) rfl (wpAny_pure ?_))
  refine wpAny_bind ?_
  unfold Builtin.Dict_items.newIterator
  refine wpAny_bind (wpAny_dictEntries ho r.d ?_)
  refine wpAny_bind (wpAny_dictEpoch ho r.d ?_)
  have hown : Builtin.Dict_items.ownsTuple "dict_valueiterator" = false := by decide
  simp only [hown, Bool.false_eq_true, if_false]
  refine wpAny_newObj_type (wpAny_pure ⟨_, rfl, "dict_valueiterator", _, ⟨_, Heap.get?_push_size _ rfl, rfl⟩, PySem.F.slot_dict_valueiterator_next.lookup, ?_⟩)
  simpa [rawInt] using hQ

theorem rd_next_items {it : Addr} {i : Nat} {ok ov : Value} {Q : Option Value → Shared → Prop} (hit : IsItemIter s.heap it d i es.size ep ok ov)
    (hod : s.heap.get? d = some od) (r : RawD od es ep) (hlt : i < es.size)
    (hQ : ∀ h', IsItemIterOut h' it d (i + 1) es.size ep es[i].key es[i].val s.heap.objs.size →
      h'.get? s.heap.objs.size = some { cls := .type "tuple", data := .seq #[es[i].key, es[i].val] } → h'.objs.size = s.heap.objs.size + 1 →
      (∀ b o, b ≠ it → s.heap.get? b = some o → h'.get? b = some o) → Q (some (.ref s.heap.objs.size)) { s with heap := h' }) :
    wpAny (model prog w) A (pyNext (.ref it)) Q E s := by
  obtain ⟨hp, g, dr, tk, os⟩ := s
  have hdd := r.d
  have hT : Shared.TypeIs ⟨hp, g, dr, tk, os⟩ (.ref it) "dict_itemiterator" := ⟨_, hit, rfl⟩
  unfold pyNext
  refine wpAny_bind (wpAny_attempt (wpAny_callSpecial?_slot (name := Str.ofString "__next__") hT PySem.F.slot_dict_itemiterator_next
    (wpAny_call_entry PySem.F.slot_dict_itemiterator_next hT PySem.F.entry_dict_itemiterator_next ?_ (PySem.F.args_dict_itemiterator_next_1 _))))
  refine wpAny_bind (wpAny_pure ?_)
  refine wpAny_bind ?_
  refine wpAny_bind ?_
  first | refine wpAny_bind (wpAny_typeNameOfWhole_itemiter hT (wpAny_pure ?_)) | refine wpAny_bind (wpAny_typeNameOf_itemiter hT (wpAny_pure ?_))
  refine wpAny_bind (wpAny_fieldsOf hit rfl ?_)
  have hown : Builtin.Dict_items.ownsTuple "dict_itemiterator" = true := by decide
  simp only [hown, if_true]
  show wpAny _ _ (if (Value.ref d == Value.none) = true then _ else _) _ _ _
  rw [if_neg (show ¬ ((Value.ref d == Value.none) = true) from Bool.false_ne_true)]
  refine wpAny_bind (wpAny_pure ?_)
  refine wpAny_bind (wpAny_dictEntries hod hdd ?_)
  rw [if_neg (by simp)]
  refine wpAny_bind (wpAny_pure ?_)
  refine wpAny_bind (wpAny_dictEpoch hod hdd ?_)
  rw [if_neg (by simp)]
  refine wpAny_pure ?_
  simp only [show ¬ ((i : Int) < 0) from by omega, if_false, Int.toNat_natCast, Array.getElem?_eq_getElem hlt]
  refine wpAny_bind ?_
  first | refine wpAny_bind (wpAny_typeNameOfWhole_itemiter hT (wpAny_pure ?_)) | refine wpAny_bind (wpAny_typeNameOf_itemiter hT (wpAny_pure ?_))
  refine wpAny_bind (wpAny_isOneOf_itemiter hT ?_)
  show wpAny _ _ (setField (.ref it) 3 (rawInt ((i : Int) + 1)) >>= _) _ _ ⟨hp, g, dr, tk, os⟩
  refine wpAny_bind (wpAny_setField_rec hit (by simp) fun h₁ he₁ hs₁ => ?_)
  replace hs₁ : Heap.SameBut it hp h₁ := hs₁
  replace he₁ : IsItemIter h₁ it d (i + 1) es.size ep ok ov := by
    have e : ((i + 1 : Nat) : Int) = (i : Int) + 1 := by omega
    unfold IsItemIter; rw [e]; simpa [rawInt] using he₁
  have hT₁ : Shared.TypeIs ⟨h₁, g, dr, tk, os⟩ (.ref it) "dict_itemiterator" := ⟨_, he₁, rfl⟩
  refine wpAny_bind (wpAny_holding ?_)
  refine wpAny_bind (wpAny_isOneOf_itemiter hT₁ ?_)
  refine wpAny_bind (wpAny_isOneOf_itemiter hT₁ ?_)
  show wpAny _ _ (Builtin.Dict_items.pairFromOwner (.ref it) 6 es[i].key es[i].val) _ _ ⟨h₁, g, dr, tk, os⟩
  generalize es[i].key = kk at hQ ⊢
  generalize es[i].val = vv at hQ ⊢
  unfold Builtin.Dict_items.pairFromOwner
  refine wpAny_bind (wpAny_newTuple ?_)
  have he₂ : IsItemIter (h₁.push { cls := .type "tuple", data := .seq #[kk, vv] }) it d (i + 1) es.size ep ok ov := Heap.get?_push_of_some _ he₁
  generalize hh₂ : h₁.push { cls := .type "tuple", data := .seq #[kk, vv] } = h₂ at he₂
  have hz₁ : h₁.objs.size = hp.objs.size := hs₁.1
  have hil : it < hp.objs.size := Heap.lt_size hit
  have ht₂ : h₂.get? hp.objs.size = some { cls := .type "tuple", data := .seq #[kk, vv] } := by rw [← hh₂, ← hz₁]; exact Heap.get?_push_size _ rfl
  have hz₂ : h₂.objs.size = hp.objs.size + 1 := by rw [← hh₂, Heap.size_push, hz₁]
  have hk₂ : ∀ b o, b ≠ it → hp.get? b = some o → h₂.get? b = some o := fun b o hb e => by rw [← hh₂]; exact Heap.get?_push_of_some _ (hs₁.extBut b o hb e)
  show wpAny _ _ (Builtin.Dict_items.ownedTupleIsFree (.ref it) >>= _) _ _ ⟨h₂, g, dr, tk, os⟩
  rw [hz₁]
  refine wpAny_bind ?_
  unfold Builtin.Dict_items.ownedTupleIsFree
  refine wpAny_bind (wpAny_field he₂ rfl (x := .none) rfl (wpAny_pure ?_))
  simp only [if_true]
  refine wpAny_bind (wpAny_field he₂ rfl (x := ok) rfl ?_)
  refine wpAny_bind (wpAny_field he₂ rfl (x := ov) rfl ?_)
  refine wpAny_bind (wpAny_setField_rec he₂ (by simp) fun h₃ he₃ hs₃ => ?_)
  replace hs₃ : Heap.SameBut it h₂ h₃ := hs₃
  replace he₃ : IsItemIter h₃ it d (i + 1) es.size ep kk ov := he₃
  refine wpAny_bind (wpAny_setField_rec he₃ (by simp) fun h₄ he₄ hs₄ => ?_)
  replace hs₄ : Heap.SameBut it h₃ h₄ := hs₄
  replace he₄ : IsItemIter h₄ it d (i + 1) es.size ep kk vv := he₄
  refine wpAny_bind (wpAny_setField_rec he₄ (by simp) fun h₅ he₅ hs₅ => ?_)
  replace hs₅ : Heap.SameBut it h₄ h₅ := hs₅
  replace he₅ : IsItemIterOut h₅ it d (i + 1) es.size ep kk vv hp.objs.size := he₅
  refine wpAny_bind (wpAny_setField_rec he₅ (by simp) fun h₆ he₆ hs₆ => ?_)
  replace hs₆ : Heap.SameBut it h₅ h₆ := hs₆
  replace he₆ : IsItemIterOut h₆ it d (i + 1) es.size ep kk vv hp.objs.size := he₆
  have hne := Nat.ne_of_gt hil
  refine wpAny_bind (wpAny_letGo (wpAny_pure (wpAny_pure ⟨_, rfl, wpAny_pure (hQ h₆ he₆ ?_ ?_ ?_)⟩)))
  · exact hs₆.extBut _ _ hne (hs₅.extBut _ _ hne (hs₄.extBut _ _ hne (hs₃.extBut _ _ hne ht₂)))
  · show h₆.objs.size = hp.objs.size + 1
    rw [hs₆.1, hs₅.1, hs₄.1, hs₃.1, hz₂]
  · exact fun b o hb e => hs₆.extBut b o hb (hs₅.extBut b o hb (hs₄.extBut b o hb (hs₃.extBut b o hb (hk₂ b o hb e))))

theorem rd_end_items {it : Addr} {i : Nat} {ok ov : Value} {Q : Option Value → Shared → Prop} (hh : A.handled = none) (hit : IsItemIter s.heap it d i es.size ep ok ov)
    (hod : s.heap.get? d = some od) (r : RawD od es ep) (hge : es.size ≤ i)
    (hQ : ∀ h', Heap.ExtBut it s.heap h' → Q none { s with heap := h' }) : wpAny (model prog w) A (pyNext (.ref it)) Q E s := by
  have hdd := r.d
  have hT : s.TypeIs (.ref it) "dict_itemiterator" := ⟨_, hit, rfl⟩
  unfold pyNext
  refine wpAny_bind (wpAny_attempt (wpAny_callSpecial?_slot (name := Str.ofString "__next__") hT PySem.F.slot_dict_itemiterator_next
    (wpAny_call_entry PySem.F.slot_dict_itemiterator_next hT PySem.F.entry_dict_itemiterator_next ?_ (PySem.F.args_dict_itemiterator_next_1 _))))
  refine wpAny_bind (wpAny_pure ?_)
  refine wpAny_bind ?_
  refine wpAny_bind ?_
  first | refine wpAny_bind (wpAny_typeNameOfWhole_itemiter hT (wpAny_pure ?_)) | refine wpAny_bind (wpAny_typeNameOf_itemiter hT (wpAny_pure ?_))
  refine wpAny_bind (wpAny_fieldsOf hit rfl ?_)
  have hown : Builtin.Dict_items.ownsTuple "dict_itemiterator" = true := by decide
  simp only [hown, if_true]
  show wpAny _ _ (if (Value.ref d == Value.none) = true then _ else _) _ _ s
  rw [if_neg (show ¬ ((Value.ref d == Value.none) = true) from Bool.false_ne_true)]
  refine wpAny_bind (wpAny_pure ?_)
  refine wpAny_bind (wpAny_dictEntries hod hdd ?_)
  rw [if_neg (by simp)]
  refine wpAny_bind (wpAny_pure ?_)
  refine wpAny_bind (wpAny_dictEpoch hod hdd ?_)
  rw [if_neg (by simp)]
  refine wpAny_pure ?_
  simp only [show ¬ ((i : Int) < 0) from by omega, if_false, Int.toNat_natCast, Array.getElem?_eq_none hge]
  refine wpAny_bind ?_
  first | refine wpAny_bind (wpAny_typeNameOfWhole_itemiter hT (wpAny_pure ?_)) | refine wpAny_bind (wpAny_typeNameOf_itemiter hT (wpAny_pure ?_))
  show wpAny _ _ (setField (.ref it) 2 .none >>= _) _ _ s
  refine wpAny_bind (wpAny_setField hit rfl (by simp) ?_)
  show wpAny _ _ (newExc (.type "StopIteration") [] >>= _) _ _ _
  refine wpAny_bind ?_
  simp only [newExc, newTuple]
  refine wpAny_bind (wpAny_newObj_type ?_ (by size_fits))
  refine wpAny_bind (m := firstArgMember _ _) (wpAny_of_eq (a := Value.none) (by first | rfl | (simp only [firstArgMember]; rfl)) ?_)
  refine wpAny_newObj_type ?_ (by size_fits)
  simp only [raiseNew]
  refine wpAny_bind (wpAny_handled ?_)
  rw [show A.in1.handled = none from hh]
  refine wpAny_bind (wpAny_pure (wpAny_throw ?_))
  refine wpAny_bind (wpAny_isInstance (T := "StopIteration") (b := true) ⟨_, Heap.get?_push_size _ rfl, rfl⟩ isSubtype_stop ?_)
  exact wpAny_pure (hQ _ (((Heap.SameBut.update ..).extBut.push _).push _))

theorem rd_next_values {it : Addr} {i : Nat} {Q : Option Value → Shared → Prop} (hit : s.heap.IsValIter it d i es.size ep)
    (hod : s.heap.get? d = some od) (r : RawD od es ep) (hlt : i < es.size)
    (hQ : ∀ h', h'.IsValIter it d (i + 1) es.size ep → Heap.SameBut it s.heap h' → Q (some es[i].val) { s with heap := h' }) :
    wpAny (model prog w) A (pyNext (.ref it)) Q E s := by
  obtain ⟨o, ho, hc, hd⟩ := id hit
  have hdd := r.d
  unfold pyNext
  refine wpAny_bind (wpAny_attempt (wpAny_callSpecial?_slot (name := Str.ofString "__next__") hit.typeIs PySem.F.slot_dict_valueiterator_next
    (wpAny_call_entry PySem.F.slot_dict_valueiterator_next hit.typeIs PySem.F.entry_dict_valueiterator_next ?_ (PySem.F.args_dict_valueiterator_next_1 _))))
  refine wpAny_bind (wpAny_pure ?_)
  refine wpAny_bind ?_
  refine wpAny_bind ?_
  first | refine wpAny_bind (wpAny_typeNameOfWhole_valiter hit.typeIs (wpAny_pure ?_)) | refine wpAny_bind (wpAny_typeNameOf_valiter hit.typeIs (wpAny_pure ?_))
  refine wpAny_bind (wpAny_fieldsOf ho hd ?_)
  have hown : Builtin.Dict_items.ownsTuple "dict_valueiterator" = false := by decide
  simp only [hown, Bool.false_eq_true, if_false]
  show wpAny _ _ (if (Value.ref d == Value.none) = true then _ else _) _ _ s
  rw [if_neg (show ¬ ((Value.ref d == Value.none) = true) from Bool.false_ne_true)]
  refine wpAny_bind (wpAny_pure ?_)
  refine wpAny_bind (wpAny_dictEntries hod hdd ?_)
  rw [if_neg (by simp)]
  refine wpAny_bind (wpAny_pure ?_)
  refine wpAny_bind (wpAny_dictEpoch hod hdd ?_)
  rw [if_neg (by simp)]
  refine wpAny_pure ?_
  simp only [show ¬ ((i : Int) < 0) from by omega, if_false, Int.toNat_natCast, Array.getElem?_eq_getElem hlt]
  refine wpAny_bind ?_
  first | refine wpAny_bind (wpAny_typeNameOfWhole_valiter hit.typeIs (wpAny_pure ?_)) | refine wpAny_bind (wpAny_typeNameOf_valiter hit.typeIs (wpAny_pure ?_))
  refine wpAny_bind (wpAny_isOneOf_valiter hit.typeIs ?_)
  show wpAny _ _ (setField (.ref it) 1 (rawInt ((i : Int) + 1)) >>= _) _ _ s
  refine wpAny_bind (wpAny_setField ho hd (by simp) ?_)
  have hit' : (s.heap.update it (Obj.mapFields (·.setIfInBounds 1 (rawInt ((i : Int) + 1))))).IsValIter it d (i + 1) es.size ep :=
    ⟨_, Heap.get?_update_self _ ho (Obj.isFreed_of_fields (Obj.data_mapFields hd _)), (Obj.cls_mapFields ..).trans hc, by rw [Obj.data_mapFields hd]; simp [rawInt]⟩
  refine wpAny_bind (wpAny_holding ?_)
  refine wpAny_bind (wpAny_isOneOf_valiter (s := { s with heap := s.heap.update it (Obj.mapFields (·.setIfInBounds 1 (rawInt ((i : Int) + 1)))) }) hit'.typeIs ?_)
  refine wpAny_bind (wpAny_isOneOf_valiter (s := { s with heap := s.heap.update it (Obj.mapFields (·.setIfInBounds 1 (rawInt ((i : Int) + 1)))) }) hit'.typeIs ?_)
  show wpAny _ _ (pure es[i].val) _ _ _
  exact wpAny_pure (wpAny_pure ⟨_, rfl, wpAny_pure (hQ _ hit' (Heap.SameBut.update ..))⟩)

theorem rd_end_values {it : Addr} {i : Nat} {Q : Option Value → Shared → Prop} (hh : A.handled = none) (hit : s.heap.IsValIter it d i es.size ep)
    (hod : s.heap.get? d = some od) (r : RawD od es ep) (hge : es.size ≤ i)
    (hQ : ∀ h', Heap.ExtBut it s.heap h' → Q none { s with heap := h' }) : wpAny (model prog w) A (pyNext (.ref it)) Q E s := by
  obtain ⟨o, ho, hc, hd⟩ := id hit
  have hdd := r.d
  unfold pyNext
  refine wpAny_bind (wpAny_attempt (wpAny_callSpecial?_slot (name := Str.ofString "__next__") hit.typeIs PySem.F.slot_dict_valueiterator_next
    (wpAny_call_entry PySem.F.slot_dict_valueiterator_next hit.typeIs PySem.F.entry_dict_valueiterator_next ?_ (PySem.F.args_dict_valueiterator_next_1 _))))
  refine wpAny_bind (wpAny_pure ?_)
  refine wpAny_bind ?_
  refine wpAny_bind ?_
  first | refine wpAny_bind (wpAny_typeNameOfWhole_valiter hit.typeIs (wpAny_pure ?_)) | refine wpAny_bind (wpAny_typeNameOf_valiter hit.typeIs (wpAny_pure ?_))
  refine wpAny_bind (wpAny_fieldsOf ho hd ?_)
  have hown : Builtin.Dict_items.ownsTuple "dict_valueiterator" = false := by decide
  simp only [hown, Bool.false_eq_true, if_false]
  show wpAny _ _ (if (Value.ref d == Value.none) = true then _ else _) _ _ s
  rw [if_neg (show ¬ ((Value.ref d == Value.none) = true) from Bool.false_ne_true)]
  refine wpAny_bind (wpAny_pure ?_)
  refine wpAny_bind (wpAny_dictEntries hod hdd ?_)
  rw [if_neg (by simp)]
  refine wpAny_bind (wpAny_pure ?_)
  refine wpAny_bind (wpAny_dictEpoch hod hdd ?_)
  rw [if_neg (by simp)]
  refine wpAny_pure ?_
  simp only [show ¬ ((i : Int) < 0) from by omega, if_false, Int.toNat_natCast, Array.getElem?_eq_none hge]
  refine wpAny_bind ?_
  first | refine wpAny_bind (wpAny_typeNameOfWhole_valiter hit.typeIs (wpAny_pure ?_)) | refine wpAny_bind (wpAny_typeNameOf_valiter hit.typeIs (wpAny_pure ?_))
  show wpAny _ _ (setField (.ref it) 0 .none >>= _) _ _ s
  refine wpAny_bind (wpAny_setField ho hd (by simp) ?_)
  show wpAny _ _ (newExc (.type "StopIteration") [] >>= _) _ _ _
  refine wpAny_bind ?_
  simp only [newExc, newTuple]
  refine wpAny_bind (wpAny_newObj_type ?_ (by size_fits))
  refine wpAny_bind (m := firstArgMember _ _) (wpAny_of_eq (a := Value.none) (by first | rfl | (simp only [firstArgMember]; rfl)) ?_)
  refine wpAny_newObj_type ?_ (by size_fits)
  simp only [raiseNew]
  refine wpAny_bind (wpAny_handled ?_)
  rw [show A.in1.handled = none from hh]
  refine wpAny_bind (wpAny_pure (wpAny_throw ?_))
  refine wpAny_bind (wpAny_isInstance (T := "StopIteration") (b := true) ⟨_, Heap.get?_push_size _ rfl, rfl⟩ isSubtype_stop ?_)
  exact wpAny_pure (hQ _ (((Heap.SameBut.update ..).extBut.push _).push _))
end

/-- the turns over d.items(), d a raw dict -/
theorem rd_itemsTurns {prog : Program} {w : World} {A : Around} {od : Obj} {es : Array DictEntry} {ep : Nat} {elts : List PySem.Expr} {kk : Nat} {pos : Pos} (hh : A.handled = none) (I d : Addr) (hne : d ≠ I) (r : RawD od es ep) :
    KTurns prog w A (.Tuple elts kk pos) I [I, d] [I] es.size
      (fun i v h => ∃ T x, v = .ref T ∧ es[i]? = some x ∧ h.IsTuple T #[x.key, x.val])
      (fun i v h => ∃ T x ok ov, v = .ref T ∧ es[i]? = some x ∧ h.IsTuple T #[x.key, x.val] ∧ IsItemIterOut h I d (i + 1) es.size ep ok ov T ∧ h.get? d = some od ∧ T ≠ I)
      (fun i h => (∃ ok ov, IsItemIter h I d i es.size ep ok ov) ∧ h.get? d = some od) where
  sub := fun b hb => by simp at hb; simp [hb]
  frame := fun i h h' st hk => by
    obtain ⟨⟨ok, ov, he⟩, hm⟩ := st
    exact ⟨⟨ok, ov, hk I (by simp) _ he⟩, hk d (by simp) _ hm⟩
  item := fun i s Q E hi st hQ => by
    obtain ⟨⟨ok, ov, he⟩, hm⟩ := st
    refine rd_next_items he hm r hi fun h' ho hT hsz hk => ?_
    exact hQ (.ref s.heap.objs.size) h' s.toks ⟨s.heap.objs.size, es[i], _, _, rfl, Array.getElem?_eq_getElem hi, ⟨_, hT, rfl, _, rfl⟩, ho, hk d _ hne hm, Nat.ne_of_gt (Heap.lt_size he)⟩ fun b o hb e => hk b o (fun h => hb (by simp [h])) e
  go := fun i v s Q E hm hQ => by
    obtain ⟨T, x, ok, ov, rfl, hx, hT, ho, hd, hTI⟩ := hm
    refine wpAny_letOwnedTupleGo_items ho fun h' he hs => ?_
    exact hQ h' ⟨T, x, rfl, hx, hT.at fun o e => hs.extBut T o hTI e⟩ ⟨⟨ok, ov, he⟩, hs.extBut d _ hne hd⟩ fun b o hb e => hs.extBut b o (fun h => hb (by simp [h])) e
  done := fun s Q E st hQ => by
    obtain ⟨⟨ok, ov, he⟩, hm⟩ := st
    exact rd_end_items hh he hm r (Nat.le_refl _) fun h' hx => hQ h' s.toks fun b o hb e => hx b o (fun h => hb (by simp [h])) e

theorem rd_valuesTurns {prog : Program} {w : World} {A : Around} {od : Obj} {es : Array DictEntry} {ep : Nat} {target : PySem.Expr} (hh : A.handled = none) (I d : Addr) (hne : d ≠ I) (r : RawD od es ep) :
    KTurns prog w A target I [I, d] [I] es.size
      (fun i v _ => ∃ x, es[i]? = some x ∧ v = x.val)
      (fun i v h => (∃ x, es[i]? = some x ∧ v = x.val) ∧ h.IsValIter I d (i + 1) es.size ep ∧ h.get? d = some od)
      (fun i h => h.IsValIter I d i es.size ep ∧ h.get? d = some od) where
  sub := fun b hb => by simp at hb; simp [hb]
  frame := fun i h h' st hk => ⟨let ⟨o, ho, q⟩ := st.1; ⟨o, hk I (by simp) _ ho, q⟩, hk d (by simp) _ st.2⟩
  item := fun i s Q E hi st hQ => by
    refine rd_next_values st.1 st.2 r hi fun h' hit' hs' => ?_
    exact hQ _ h' s.toks ⟨⟨es[i], Array.getElem?_eq_getElem hi, rfl⟩, hit', hs'.extBut d _ hne st.2⟩ fun b o hb e => hs'.extBut b o (fun h => hb (by simp [h])) e
  go := fun i v s Q E hm hQ => letGo_valiter hm.2.1 (hQ s.heap hm.1 hm.2 fun _ _ _ e => e)
  done := fun s Q E st hQ => rd_end_values hh st.1 st.2 r (Nat.le_refl _) fun h' hx => hQ h' s.toks fun b o hb e => hx b o (fun h => hb (by simp [h])) e

section
variable {prog : Program} {w : World} {A : Around} {E : Value → Shared → Prop} {s : Shared} {env : Env} {h₀ : Heap} {body : List Stmt} {Q : Flow → Shared → Prop} {od : Obj} {es : Array DictEntry} {ep : Nat} {d : Addr} {m₀ : Str → Option Value} {news : List (Addr × Obj)}

noncomputable def itemsOf (es : Array DictEntry) : List Itm := es.toList.map fun e => Itm.pair (fun _ => e.key) e.val
noncomputable def valuesOf (es : Array DictEntry) : List Itm := es.toList.map fun e => Itm.val e.val

theorem rd_forItems {elts : List PySem.Expr} {kk : Nat} {pos : Pos} {vw : Addr} (hh : A.handled = none) (F : Fr h₀ env.locals s.heap m₀) (N : News h₀ env.locals s.heap news)
    (hvw : s.heap.IsItemsView vw d) (hm : (d, od) ∈ news) (r : RawD od es ep)
    (rest₀ : ∀ I : Addr, (∀ p ∈ news, p.1 < I) → ItemsRest prog w A E h₀ env (.Tuple elts kk pos) body Q s [(I, "dict_itemiterator")] [(d, od)] (itemsOf es) m₀ news) :
    wpAny (model prog w) A (pyIter (.ref vw)) (fun it s₂ => TurnsAt prog w A h₀ env (.Tuple elts kk pos) body Q E it s₂) E s := by
  have hax := N _ hm
  have hne : d ≠ s.heap.objs.size := Nat.ne_of_lt (Heap.lt_size hax.1)
  refine rd_iter_items hvw hax.1 r ?_
  refine ktu_core (tk0 := s.toks) (keep := [(d, od)]) (rd_itemsTurns hh s.heap.objs.size d hne r) (by simp [itemsOf]) ?_ ?_ ?_ ?_ ?_ ?_ ?_ ?_ (F.push _) (fun p hp => ⟨Heap.get?_push_of_some _ (N p hp).1, (N p hp).2⟩) (And.intro hm trivial) (rest₀ _ fun p hp => Heap.lt_size (N p hp).1)
  · rintro i v h ⟨T', x, rfl, hx, hT⟩
    refine ⟨Itm.pair (fun _ => x.key) x.val, ?_, T', 0, rfl, hT⟩
    rw [← Array.getElem?_toList] at hx
    simp [itemsOf, List.getElem?_map, hx]
  · rintro i h ⟨⟨ok, ov, he⟩, _⟩
    exact ⟨[(s.heap.objs.size, _)], ⟨⟨rfl, rfl⟩, trivial⟩, fun p hp => by rw [List.mem_singleton.mp hp]; exact he⟩
  · intro b hb
    have hb' : b = s.heap.objs.size := by simpa using hb
    rw [hb']
    exact ⟨List.mem_cons_self .., next_is_new F⟩
  · intro b hb
    simpa using hb
  · intro b hb
    have hb' : b = s.heap.objs.size ∨ b = d := by simpa using hb
    rcases hb' with e | e
    · exact .inl (by simp [e])
    · exact .inr ⟨od, by simp [e]⟩
  · intro hI
    have hb' : env.locals = s.heap.objs.size ∨ env.locals = d := by simpa using hI
    rcases hb' with e | e
    · exact absurd F.ns.lt (e ▸ Nat.lt_irrefl _)
    · exact hax.2.1 e.symm
  · intro p hp hI
    exact absurd (Heap.lt_size (N p hp).1) ((List.mem_singleton.mp hI) ▸ Nat.lt_irrefl _)
  · exact ⟨⟨.none, .none, Heap.get?_push_size _ rfl⟩, Heap.get?_push_of_some _ hax.1⟩

theorem rd_forValues {target : PySem.Expr} {vw : Addr} (hh : A.handled = none) (F : Fr h₀ env.locals s.heap m₀) (N : News h₀ env.locals s.heap news)
    (hvw : s.heap.IsValuesView vw d) (hm : (d, od) ∈ news) (r : RawD od es ep)
    (rest₀ : ∀ I : Addr, (∀ p ∈ news, p.1 < I) → ItemsRest prog w A E h₀ env target body Q s [(I, "dict_valueiterator")] [(d, od)] (valuesOf es) m₀ news) :
    wpAny (model prog w) A (pyIter (.ref vw)) (fun it s₂ => TurnsAt prog w A h₀ env target body Q E it s₂) E s := by
  have hax := N _ hm
  have hne : d ≠ s.heap.objs.size := Nat.ne_of_lt (Heap.lt_size hax.1)
  refine rd_iter_values hvw hax.1 r ?_
  refine ktu_core (tk0 := s.toks) (keep := [(d, od)]) (rd_valuesTurns hh s.heap.objs.size d hne r) (by simp [valuesOf]) ?_ ?_ ?_ ?_ ?_ ?_ ?_ ?_ (F.push _) (fun p hp => ⟨Heap.get?_push_of_some _ (N p hp).1, (N p hp).2⟩) (And.intro hm trivial) (rest₀ _ fun p hp => Heap.lt_size (N p hp).1)
  · rintro i v h ⟨x, hx, rfl⟩
    refine ⟨Itm.val x.val, ?_, rfl⟩
    rw [← Array.getElem?_toList] at hx
    simp [valuesOf, List.getElem?_map, hx]
  · rintro i h ⟨⟨oi, g, c, _⟩, _⟩
    exact ⟨[(s.heap.objs.size, oi)], ⟨⟨rfl, c⟩, trivial⟩, fun p hp => by rw [List.mem_singleton.mp hp]; exact g⟩
  · intro b hb
    have hb' : b = s.heap.objs.size := by simpa using hb
    rw [hb']
    exact ⟨List.mem_cons_self .., next_is_new F⟩
  · intro b hb
    simpa using hb
  · intro b hb
    have hb' : b = s.heap.objs.size ∨ b = d := by simpa using hb
    rcases hb' with e | e
    · exact .inl (by simp [e])
    · exact .inr ⟨od, by simp [e]⟩
  · intro hI
    have hb' : env.locals = s.heap.objs.size ∨ env.locals = d := by simpa using hI
    rcases hb' with e | e
    · exact absurd F.ns.lt (e ▸ Nat.lt_irrefl _)
    · exact hax.2.1 e.symm
  · intro p hp hI
    exact absurd (Heap.lt_size (N p hp).1) ((List.mem_singleton.mp hI) ▸ Nat.lt_irrefl _)
  · exact ⟨⟨_, Heap.get?_push_size _ rfl, rfl, rfl⟩, Heap.get?_push_of_some _ hax.1⟩
end
end Mine

namespace Mine
open PySem.Calls PyProof.V PySem.Spec

/-- entries' values are these ints, keys these ints' tuples -/
inductive ValsAre : List (Int × Addr × Value) → List (Int × Int) → Prop
  | nil : ValsAre [] []
  | cons {n : Int} {a : Addr} {v : Int} {t : Tok} {xs : List (Int × Addr × Value)} {kvs : List (Int × Int)} : ValsAre xs kvs → ValsAre ((n, a, .int v t) :: xs) ((n, v) :: kvs)

theorem ValsAre.length {xs : List (Int × Addr × Value)} {kvs : List (Int × Int)} (h : ValsAre xs kvs) : xs.length = kvs.length := by
  induction h with
  | nil => rfl
  | cons _ ih => simp [ih]
theorem ValsAre.keys {xs : List (Int × Addr × Value)} {kvs : List (Int × Int)} (h : ValsAre xs kvs) : xs.map (·.1) = kvs.map (·.1) := by
  induction h with
  | nil => rfl
  | cons _ ih => simp [ih]
theorem ValsAre.append {xs ys : List (Int × Addr × Value)} {kvs lvs : List (Int × Int)} (h : ValsAre xs kvs) (k : ValsAre ys lvs) : ValsAre (xs ++ ys) (kvs ++ lvs) := by
  induction h with
  | nil => exact k
  | cons _ ih => exact .cons ih

noncomputable def getT (kvs : List (Int × Int)) (k : Int) : Option Int := (kvs.find? fun x => decide (x.1 = k)).map (·.2)
noncomputable def putT (kvs : List (Int × Int)) (k v : Int) : List (Int × Int) :=
  if (getT kvs k).isSome then kvs.map fun x => if x.1 = k then (x.1, v) else x else kvs ++ [(k, v)]

theorem ValsAre.at {xs : List (Int × Addr × Value)} {kvs : List (Int × Int)} (h : ValsAre xs kvs) (k : Int) :
    (atKey xs k = none ∧ getT kvs k = none) ∨ ∃ a v t, atKey xs k = some (a, .int v t) ∧ getT kvs k = some v := by
  induction h with
  | nil => exact .inl ⟨rfl, rfl⟩
  | @cons n a v t xs kvs _ ih =>
    by_cases e : n = k
    · exact .inr ⟨a, v, t, by simp [atKey, e], by simp [getT, e]⟩
    · simpa [atKey, getT, e] using ih
theorem ValsAre.put {xs : List (Int × Addr × Value)} {kvs : List (Int × Int)} (h : ValsAre xs kvs) (k : Int) (a : Addr) (v : Int) (t : Tok) : ValsAre (storedH xs k a (.int v t)) (putT kvs k v) := by
  have hs : (atKey xs k).isSome = (getT kvs k).isSome := by
    rcases h.at k with ⟨e1, e2⟩ | ⟨_, _, _, e1, e2⟩ <;> rw [e1, e2] <;> rfl
  unfold storedH putT
  rw [hs]
  split
  · rename_i hq
    clear hs hq
    induction h with
    | nil => exact .nil
    | @cons n b u t' xs kvs _ ih =>
      rw [List.map_cons, List.map_cons]
      by_cases e : n = k
      · simp only [putAt, e, if_true]
        exact .cons (by simpa [e] using ih)
      · simp only [putAt, e, if_false]
        exact .cons ih
  · exact h.append (.cons .nil)

section
variable (prog : Program) (w : World)

/-- a dict of the ledger: keys ('at', n, 'sum'), of the ledger too, ints under them -/
noncomputable def TabO (news : List (Addr × Obj)) (o : Obj) (xs : List (Int × Addr × Value)) (kvs : List (Int × Int)) : Prop :=
  ∃ es ep, RawD o es ep ∧ es.toList = xs.map (entryOfKey (atKind prog w)) ∧ (xs.map (·.1)).Nodup ∧ (∀ x ∈ xs, ∃ ok, (x.2.1, ok) ∈ news ∧ TupKeyObj (partKind prog w) (key3 x.1) ok) ∧ ValsAre xs kvs
noncomputable def TabL (news : List (Addr × Obj)) (d : Addr) (kvs : List (Int × Int)) : Prop :=
  (d == sysModules) = false ∧ ∃ o xs, (d, o) ∈ news ∧ TabO prog w news o xs kvs
end
section
variable {prog : Program} {w : World} {A : Around} {E : Value → Shared → Prop} {s : Shared} {h₀ h : Heap} {L d a : Addr} {m : Str → Option Value} {news news' : List (Addr × Obj)} {o ok : Obj} {xs : List (Int × Addr × Value)} {kvs : List (Int × Int)} {k : Int}

theorem TabO.mono (T : TabO prog w news o xs kvs) (hs : ∀ p ∈ news, p ∈ news') : TabO prog w news' o xs kvs :=
  let ⟨es, ep, r, e, n, hk, hv⟩ := T
  ⟨es, ep, r, e, n, fun x hx => let ⟨ok, h1, h2⟩ := hk x hx; ⟨ok, hs _ h1, h2⟩, hv⟩
theorem TabL.mono (T : TabL prog w news d kvs) (hs : ∀ p ∈ news, p ∈ news') : TabL prog w news' d kvs :=
  let ⟨lo, o, xs, hm, T⟩ := T
  ⟨lo, o, xs, hs _ hm, T.mono hs⟩
theorem TabO.dict (T : TabO prog w news o xs kvs) (N : News h₀ L h news) (hd : h.get? d = some o) : h.DictOfH (atKind prog w) d xs :=
  let ⟨es, ep, r, e, n, hk, _⟩ := T
  ⟨o, es, ep, hd, r.x, r.d, e, fun x hx => let ⟨_, h1, t⟩ := hk x hx; t.key (N.get h1), n⟩
theorem TabO.empty (hd : o.IsDictOf (strKind prog w) []) : TabO prog w news o [] [] := by
  obtain ⟨es, ep, hc, hdat, _, hp, _⟩ := hd
  have he : es.toList = [] := List.length_eq_zero_iff.mp hp.length
  exact ⟨es, ep, ⟨hc, hdat⟩, he, List.nodup_nil, fun _ hx => (nomatch hx), .nil⟩
theorem TabO.nodup (T : TabO prog w news o xs kvs) : (kvs.map (·.1)).Nodup := let ⟨_, _, _, _, n, _, hv⟩ := T; hv.keys ▸ n
theorem TabO.vals (T : TabO prog w news o xs kvs) : ValsAre xs kvs := let ⟨_, _, _, _, _, _, hv⟩ := T; hv

/-- a key's object of the ledger -/
noncomputable def KeyL (prog : Program) (w : World) (news : List (Addr × Obj)) (a : Addr) (k : Int) : Prop := ∃ ok, (a, ok) ∈ news ∧ TupKeyObj (partKind prog w) (key3 k) ok
theorem KeyL.mono (K : KeyL prog w news a k) (hs : ∀ p ∈ news, p ∈ news') : KeyL prog w news' a k := let ⟨ok, h1, h2⟩ := K; ⟨ok, hs _ h1, h2⟩
theorem KeyL.is (K : KeyL prog w news a k) (N : News h₀ L h news) : (atKind prog w).is h k a := let ⟨_, h1, t⟩ := K; t.key (N.get h1)
theorem TabO.key (T : TabO prog w news o xs kvs) {x : Int × Addr × Value} (hx : x ∈ xs) : KeyL prog w news x.2.1 x.1 := let ⟨_, _, _, _, _, hk, _⟩ := T; hk x hx

theorem room_at (hu : A.units + 1 < cLine) : (atKind prog w).room A.in1 := hu

theorem tb_in {Q : Value → Shared → Prop} (hu : A.units + 1 < cLine) (N : News h₀ L s.heap news) (hd : (d, o) ∈ news) (lo : (d == sysModules) = false) (T : TabO prog w news o xs kvs) (K : KeyL prog w news a k)
    (h : Q (.bool (getT kvs k).isSome) { s with toks := s.toks + 4 }) : wpAny (model prog w) A (compareOp .In (.ref a) (.ref d)) Q E s := by
  refine wpAny_in_heap (room_at hu) (K.is N) lo (T.dict N (N.get hd)) ?_
  have e : (atKey xs k).isSome = (getT kvs k).isSome := by
    rcases T.vals.at k with ⟨e1, e2⟩ | ⟨_, _, _, e1, e2⟩ <;> rw [e1, e2] <;> rfl
  rw [e]; exact h

theorem tb_inB {Q : Value → Shared → Prop} (b : Bool) (hb : (getT kvs k).isSome = b) (hu : A.units + 1 < cLine) (N : News h₀ L s.heap news') (hd : (d, o) ∈ news') (hs : ∀ p ∈ news, p ∈ news') (lo : (d == sysModules) = false) (T : TabO prog w news o xs kvs) (K : KeyL prog w news a k)
    (h : Q (.bool b) { s with toks := s.toks + 4 }) : wpAny (model prog w) A (compareOp .In (.ref a) (.ref d)) Q E s :=
  tb_in hu N hd lo (T.mono hs) (K.mono hs) (by rw [hb]; exact h)

theorem tb_getItem {v : Int} {Q : Value → Shared → Prop} (hu : A.units + 1 < cLine) (N' : News h₀ L s.heap news') (hd' : (d, o) ∈ news') (hs : ∀ p ∈ news, p ∈ news') (T : TabO prog w news o xs kvs) (K : KeyL prog w news a k) (hv : getT kvs k = some v)
    (h : ∀ t, Q (.int v t) { s with toks := s.toks + 4 }) : wpAny (model prog w) A (getItem (.ref d) (.ref a)) Q E s := by
  replace T := T.mono hs
  replace K := K.mono hs
  have N := N'
  have hd := hd'
  rcases T.vals.at k with ⟨e1, e2⟩ | ⟨b, u, t, e1, e2⟩
  · rw [e2] at hv; cases hv
  · rw [e2] at hv; cases hv
    exact wpAny_getItem_heap (room_at hu) (K.is N) (T.dict N (N.get hd)) e1 (h t)

theorem tb_get {dv : Int} {dt : Tok} {Q : Value → Shared → Prop} (hu : A.units + 1 < cLine) (N : News h₀ L s.heap news) (hd : (d, o) ∈ news) (lo : (d == sysModules) = false) (T : TabO prog w news o xs kvs) (K : KeyL prog w news a k)
    (h : ∀ t, Q (.int ((getT kvs k).getD dv) t) { s with toks := s.toks + 4 }) : wpAny (model prog w) A (call (.builtin "dict.get") [.ref d, .ref a, .int dv dt]) Q E s := by
  have hD := T.dict N (N.get hd)
  refine call_meetsIn PySem.F.slot_dict_get hD.typeIs PySem.F.entry_dict_get (PySem.F.args_dict_get_3 _ _ _) (meetsH_dict_get_default (atKind prog w) d a lo (.int dv dt)) ⟨room_at hu, k, xs, K.is N, hD, ?_⟩
  rcases T.vals.at k with ⟨e1, e2⟩ | ⟨b, u, t, e1, e2⟩
  · rw [e1]; rw [e2] at h; exact h dt
  · rw [e1]; rw [e2] at h; exact h t

theorem key_ne (N : News h₀ L h news) (hd : (d, o) ∈ news) (T : TabO prog w news o xs kvs) (K : KeyL prog w news a k) : a ≠ d := by
  obtain ⟨es, ep, r, _⟩ := T
  obtain ⟨ok, h1, t⟩ := K
  intro e
  subst e
  obtain rfl : ok = o := Option.some.inj ((N.get h1).symm.trans (N.get hd))
  have h2 := t.1
  rw [r.x.1] at h2
  injection h2 with h3
  exact absurd h3 (by decide)

/-- a store: the dict's object turns, all else of the ledger stands -/
theorem tb_setItem {all : List (Addr × Obj)} {g : Obj → List (Addr × Obj)} {v : Int} {t : Tok} {Q : Unit → Shared → Prop} (hu : A.units + 1 < cLine) (F : Fr h₀ L s.heap m) (N : News h₀ L s.heap all) (U : UpdF d o all g) (hs : ∀ p ∈ news, p ∈ all)
    (T : TabO prog w news o xs kvs) (K : KeyL prog w news a k) (hsz : kvs.length ≤ sizeLine)
    (h : ∀ h' o', Fr h₀ L h' m → News h₀ L h' (g o') → TabO prog w news o' (storedH xs k a (.int v t)) (putT kvs k v) → Q () { s with heap := h', toks := s.toks + 4 }) :
    wpAny (model prog w) A (setItem (.ref d) (.ref a) (.int v t)) Q E s := by
  obtain ⟨pre, post, rfl, hg, ha, hb⟩ := U.split
  have hd := N (d, o) (List.mem_append_right _ (.head _))
  have N₁ : News h₀ L s.heap news := fun p hp => N p (hs p hp)
  have hD := T.dict N₁ hd.1
  refine wpAny_setItem_heap (hsz := by rw [T.vals.length]; exact hsz) (room_at hu) (K.is N₁) hD fun h' hm' hs' => ?_
  obtain ⟨o', es', ep', ho', hc', hd', he', _, hn'⟩ := hm'
  refine h h' o' (F.change hs' hd.2.1 hd.2.2) (hg o' ▸ N.setIn ha hb hs' ho') ⟨es', ep', ⟨hc', hd'⟩, he', hn', fun x hx => ?_, T.vals.put k a v t⟩
  rcases mem_storedH hx with ⟨y, hy, e1, e2⟩ | ⟨e1, e2⟩
  · rw [e1, e2]; exact T.key hy
  · rw [e1, e2]; exact K
end

theorem ne_of_allLt {d : Addr} : ∀ {l : List (Addr × Obj)}, AllLt d l → ∀ p ∈ l, p.1 ≠ d
  | [], _, _, hp => (nomatch hp)
  | q :: r, h, p, hp => by
    rcases List.mem_cons.mp hp with rfl | hp
    · exact Nat.ne_of_lt h.1
    · exact ne_of_allLt h.2 p hp

noncomputable def addT (kvs : List (Int × Int)) (k v : Int) : List (Int × Int) := putT kvs k ((getT kvs k).getD 0 + v)
theorem addT_none {l : List (Int × Int)} {k v : Int} (h : getT l k = none) : addT l k v = putT l k v := by simp [addT, h]
theorem addT_some {l : List (Int × Int)} {k v u : Int} (h : getT l k = some u) : addT l k v = putT l k (u + v) := by simp [addT, h]
theorem getT_append_none {l : List (Int × Int)} {k v : Int} (h : getT l k = none) : putT l k v = l ++ [(k, v)] := by simp [putT, h]
theorem getT_none_of {l : List (Int × Int)} {k : Int} (h : k ∉ l.map (·.1)) : getT l k = none := by
  unfold getT
  rw [Option.map_eq_none_iff, List.find?_eq_none]
  intro x hx e
  exact h (List.mem_map.mpr ⟨x, hx, of_decide_eq_true e⟩)
end Mine

namespace Mine
open PySem.Calls PyProof.V PySem.Spec


section
variable {prog : Program} {w : World} {A : Around} {E : Value → Shared → Prop} {s : Shared} {h₀ : Heap} {L d : Addr} {m : Str → Option Value} {all : List (Addr × Obj)} {od : Obj} {es : Array DictEntry} {ep : Nat}
theorem rdN_method {name : Str} {id : String} {pl : Sem Bool} {Q : Value × List Value → Shared → Prop} (slot : Slot "dict" name id) (hty : typeOf (.builtin id) = pure (.type "method_descriptor"))
    (N : News h₀ L s.heap all) (hm : (d, od) ∈ all) (r : RawD od es ep) (h : Q (.builtin id, [.ref d]) s) : wpAny (model prog w) A (getMethod (.ref d) name pl) Q E s := rd_method slot hty (N.get hm) r h
theorem rdN_items {Q : Value → Shared → Prop} (F : Fr h₀ L s.heap m) (N : News h₀ L s.heap all) (hm : (d, od) ∈ all) (r : RawD od es ep) (lo : (d == sysModules) = false)
    (h : ∀ V h', Fr h₀ L h' m → News h₀ L h' ((V, ({ cls := .type "dict_items", data := .fields #[.ref d] } : Obj)) :: all) → (∀ p ∈ all, p.1 < V) → Q (.ref V) { s with heap := h' }) :
    wpAny (model prog w) A (call (.builtin "dict.items") [.ref d]) Q E s :=
  rd_call_items lo (N.get hm) r (h _ _ (F.push _) (News.push F N _) fun p hp => Heap.lt_size (N p hp).1)
theorem rdN_values {Q : Value → Shared → Prop} (F : Fr h₀ L s.heap m) (N : News h₀ L s.heap all) (hm : (d, od) ∈ all) (r : RawD od es ep) (lo : (d == sysModules) = false)
    (h : ∀ V h', Fr h₀ L h' m → News h₀ L h' ((V, ({ cls := .type "dict_values", data := .fields #[.ref d] } : Obj)) :: all) → (∀ p ∈ all, p.1 < V) → Q (.ref V) { s with heap := h' }) :
    wpAny (model prog w) A (call (.builtin "dict.values") [.ref d]) Q E s :=
  rd_call_values lo (N.get hm) r (h _ _ (F.push _) (News.push F N _) fun p hp => Heap.lt_size (N p hp).1)
theorem ne_of_lts {l : List (Addr × Obj)} (h : ∀ p ∈ l, p.1 < d) : ∀ p ∈ l, p.1 ≠ d := fun p hp => Nat.ne_of_lt (h p hp)
end

section
variable {prog : Program} {w : World} {A : Around} {E : Value → Shared → Prop} {s : Shared} {env : Env} {h₀ : Heap} {body : List Stmt} {target : PySem.Expr} {Q : Flow → Shared → Prop} {od : Obj} {d : Addr}
/-- a turn's end -/
noncomputable def ItEnd (h₀ : Heap) (L : Addr) (I : Addr) (oI : Obj) (J : (Str → Option Value) → List (Addr × Obj) → Prop) (s₁ : Shared) (f : Flow) (s₂ : Shared) : Prop :=
  f = .next ∧ ∃ h' tk' m' nx', s₂ = { s₁ with heap := h', toks := tk' } ∧ Fr h₀ L h' m' ∧ News h₀ L h' ((I, oI) :: nx') ∧ (∀ p ∈ nx', p.1 ≠ I) ∧ J m' nx'

theorem rest_items {wn : String} {I : Addr} (J : List Itm → (Str → Option Value) → List (Addr × Obj) → Prop) (hkeep : ∀ r m nx, J r m nx → (d, od) ∈ nx)
    (turn : ∀ e r m nx v h tk oI, J (e :: r) m nx → (∀ p ∈ nx, p.1 ≠ I) → oI.cls = .type wn → e.Is v h → Fr h₀ env.locals h m → News h₀ env.locals h ((I, oI) :: nx) →
      wpAny (model prog w) A (assign target env v) (fun _ s₂ => wpAny (model prog w) A (execs body env) (ItEnd h₀ env.locals I oI (J r) { s with heap := h, toks := tk }) E s₂) E { s with heap := h, toks := tk })
    (done : ∀ m nx h tk, J [] m nx → (∀ p ∈ nx, p.1 ≠ I) → Fr h₀ env.locals h m → News h₀ env.locals h nx → Q .next { s with heap := h, toks := tk }) :
    ∀ (r : List Itm) (m : Str → Option Value) (nx : List (Addr × Obj)), J r m nx → (∀ p ∈ nx, p.1 ≠ I) →
      ItemsRest prog w A E h₀ env target body Q s [(I, wn)] [(d, od)] r m nx := by
  intro r
  induction r with
  | nil => exact fun m nx hJ off h tk F N => done m nx h tk hJ off F N
  | cons e r ih =>
    intro m nx hJ off v h tk hv F
    refine AllObj.cons fun oI hc => AllObj.nil fun N => ?_
    refine wpAny_mono (turn e r m nx v h tk oI hJ off hc hv F N) (fun _ s₂ h₂ => wpAny_mono h₂ (fun f s₃ h₃ => ?_) fun _ _ e => e) fun _ _ e => e
    obtain ⟨rfl, h', tk', m', nx', e', F', N', off', hJ'⟩ := h₃
    refine ⟨h', tk', m', nx', e', F', N', fun p hp q hq => ?_, ⟨hkeep _ _ _ hJ', trivial⟩, ih m' nx' hJ' off'⟩
    rw [List.mem_singleton.mp hq]
    exact off' p hp
end
end Mine
namespace Mine
open PySem.Calls PyProof.V PySem.Spec
theorem fr_pin {h₀ h : Heap} {L : Addr} {m : Str → Option Value} {x : Str} {v : Value} (F : Fr h₀ L h m) (e : m x = some v) : Fr h₀ L h (fun y => if y = x then some v else m y) := by
  have q : (fun y => if y = x then some v else m y) = m := by
    funext y
    by_cases hy : y = x
    · rw [if_pos hy, hy, e]
    · rw [if_neg hy]
  rw [q]; exact F
theorem fr_pin2 {h₀ h : Heap} {L : Addr} {m : Str → Option Value} {x x2 : Str} {v v2 : Value} (F : Fr h₀ L h m) (e : m x = some v) (e2 : m x2 = some v2) : Fr h₀ L h (fun y => if y = x then some v else if y = x2 then some v2 else m y) := by
  have q : (fun y => if y = x then some v else if y = x2 then some v2 else m y) = m := by
    funext y
    split
    · rename_i hy; rw [hy, e]
    · split
      · rename_i hy; rw [hy, e2]
      · rfl
  rw [q]; exact F
theorem fr_pin3 {h₀ h : Heap} {L : Addr} {m : Str → Option Value} {x x2 x3 : Str} {v v2 v3 : Value} (F : Fr h₀ L h m) (e : m x = some v) (e2 : m x2 = some v2) (e3 : m x3 = some v3) :
    Fr h₀ L h (fun y => if y = x then some v else if y = x2 then some v2 else if y = x3 then some v3 else m y) := by
  have q : (fun y => if y = x then some v else if y = x2 then some v2 else if y = x3 then some v3 else m y) = m := by
    funext y
    split
    · rename_i hy; rw [hy, e]
    · split
      · rename_i hy; rw [hy, e2]
      · split
        · rename_i hy; rw [hy, e3]
        · rfl
  rw [q]; exact F
theorem fr_pin4 {h₀ h : Heap} {L : Addr} {m : Str → Option Value} {x x2 x3 x4 : Str} {v v2 v3 v4 : Value} (F : Fr h₀ L h m) (e : m x = some v) (e2 : m x2 = some v2) (e3 : m x3 = some v3) (e4 : m x4 = some v4) :
    Fr h₀ L h (fun y => if y = x then some v else if y = x2 then some v2 else if y = x3 then some v3 else if y = x4 then some v4 else m y) := by
  have q : (fun y => if y = x then some v else if y = x2 then some v2 else if y = x3 then some v3 else if y = x4 then some v4 else m y) = m := by
    funext y
    split
    · rename_i hy; rw [hy, e]
    · split
      · rename_i hy; rw [hy, e2]
      · split
        · rename_i hy; rw [hy, e3]
        · split
          · rename_i hy; rw [hy, e4]
          · rfl
  rw [q]; exact F
noncomputable def itm (x : Int × Addr × Value) : Itm := Itm.pair (fun _ => Value.ref x.2.1) x.2.2
theorem itemsOf_tab {prog : Program} {w : World} {es : Array DictEntry} {xs : List (Int × Addr × Value)} (e : es.toList = xs.map (entryOfKey (atKind prog w))) : itemsOf es = xs.map itm := by
  unfold itemsOf
  rw [e, List.map_map]
  rfl
end Mine

namespace Mine
open PySem.Calls PyProof.V PySem.Spec PyProof.Rows.LCg

section
variable {prog : Program} {w : World} {A : Around} {E : Value → Shared → Prop} {s : Shared} {h₀ : Heap} {L : Addr} {m : Str → Option Value} {env : Env}

theorem bk_loop {R : Result → Shared → Prop} {elt iter target : PySem.Expr} {ifs : List PySem.Expr} {scope : Scope} {pos : Pos} {it acc : Value} {env : Env} (I : Nat → Shared → Prop)
    (turn : ∀ n s, I n s → wpAny (model prog w) A (pyNext it) (fun r s₁ => match r with
      | none => R (.ok .next) s₁
      | some v => wpAny (model prog w) A (letOwnedTupleGo target it v) (fun _ s₁' => wpAny (model prog w) A (assign target env v) (fun _ s₂ =>
          wpAny (model prog w) A (forIn ifs true fun c r => if r = true then do let ok ← isTrue c env (eval c env); pure (ForInStep.yield ok) else pure (ForInStep.yield r)) (fun ok s₃ =>
            if ok = true then wpAny (model prog w) A (eval elt env) (fun x s₄ =>
              wpAny (model prog w) A (call (.builtin "list.append") [acc, x]) (fun _ s₅ => ∃ m, m < n ∧ I m s₅) (notedBy (model prog w) A env fun e s' => R (.error e) s') s₄) (notedBy (model prog w) A env fun e s' => R (.error e) s') s₃
            else ∃ m, m < n ∧ I m s₃) (notedBy (model prog w) A env fun e s' => R (.error e) s') s₂) (notedBy (model prog w) A env fun e s' => R (.error e) s') s₁')
          (notedBy (model prog w) A env fun e s' => R (.error e) s') s₁) (notedBy (model prog w) A env fun e s' => R (.error e) s') s)
    (n : Nat) (h : I n s) : codeAny (model prog w) A (.compLoop (.ListComp elt [⟨target, iter, ifs, 0⟩] scope pos) 0 it acc env) R s := by
  refine codeAny_loop rfl I (fun n s hI => ?_) n h
  show wpAny _ A ((compTurn (.ListComp elt [⟨target, iter, ifs, 0⟩] scope pos) 0 it acc env).onRaise (fun x => do noteFrame x env; theTreesLotGoes x)) _ _ s
  refine wpAny_noted ?_
  rw [compTurn_list]
  refine wpAny_bind (wpAny_standAt (wpAny_bind (wpAny_mono (turn n s hI) (fun r s₁ h₁ => ?_) fun _ _ h' => h')))
  cases r with
  | none => exact wpAny_pure h₁
  | some v =>
    refine wpAny_bind (wpAny_mono h₁ (fun _ s₁' h₁' => ?_) fun _ _ h' => h')
    refine wpAny_bind (wpAny_mono h₁' (fun _ s₂ h₂ => wpAny_bind (wpAny_mono h₂ (fun ok s₃ h₃ => ?_) fun _ _ h' => h')) fun _ _ h' => h')
    cases ok with
    | false => exact wpAny_pure ⟨rfl, h₃⟩
    | true => exact wpAny_bind (wpAny_bind (wpAny_mono h₃ (fun x s₄ h₄ => wpAny_bind (wpAny_mono h₄ (fun _ s₅ h₅ => wpAny_pure (wpAny_pure ⟨rfl, h₅⟩)) fun _ _ h' => h')) fun _ _ h' => h'))

/-- what stands apart: the block's frame, its list, the iterator's objects -/
noncomputable def Apart (wr : List Addr) (C D : Addr) (l : List (Addr × Obj)) : Prop := ∀ p ∈ l, p.1 ∉ wr ∧ p.1 ≠ C ∧ p.1 ≠ D

/-- an element's end -/
noncomputable def ElEnd (h₀ : Heap) (L : Addr) (m : Str → Option Value) (wr : List Addr) (own : List (Addr × Obj)) (C : Addr) (oC : Obj) (D : Addr) (oD : Obj) (s₁ : Shared) (J : List (Addr × Obj) → Prop) (s₂ : Shared) : Prop :=
  ∃ h' tk' nx', s₂ = { s₁ with heap := h', toks := tk' } ∧ Fr h₀ L h' m ∧ News h₀ L h' (own ++ (C, oC) :: (D, oD) :: nx') ∧ Apart wr C D nx' ∧ J nx'

theorem bk_block {elt iter : PySem.Expr} {ifs : List PySem.Expr} {x x₂ : Str} {px px₂ tp : Pos} {tk} {scope : Scope} {cl : List (Str × Addr)} {pos : Pos} {s₂ : Shared} {I : Addr} {fp wr : List Addr} {n : Nat} {P Md : Nat → Value → Heap → Prop} {St : Nat → Heap → Prop} {news : List (Addr × Obj)}
    {RR : Value → Addr → Result → Shared → Prop} (J : Nat → List Value → List (Addr × Obj) → Prop) (PP : Nat → Value → Value → Prop)
    (W : KTurns prog w A (.Tuple [.Name x px, .Name x₂ px₂] tk tp) I fp wr n P Md St) (hP : ∀ i v h, P i v h → ∃ T v₁ v₂, v = .ref T ∧ h.IsTuple T #[v₁, v₂] ∧ PP i v₁ v₂)
    (self : ∀ (s : Shared) (Q : Value → Shared → Prop) (E : Value → Shared → Prop), St 0 s.heap → Q (.ref I) s → wpAny (model prog w) A (pyIter (.ref I)) Q E s)
    (hsz : n ≤ sizeLine) (hh : A.handled = none)
    (hcell : ∀ y ∈ scope.names, y.2 ≠ .cell) (hkind : scope.kind = .function) (hx : scope.names.lookup x = some .local) (hx₂ : scope.names.lookup x₂ = some .local) (hxx : x ≠ x₂) (hst : St 0 s₂.heap) (hfp : ∀ b ∈ fp, b < s₂.heap.objs.size)
    (F : Fr h₀ L s₂.heap m) (N : News h₀ L s₂.heap news) (hLf : L ∉ fp) (hwr : ∀ b ∈ wr, h₀.get? b = none) (off : ∀ p ∈ news, p.1 ∉ wr)
    (h0 : J 0 [] news)
    (turn : ∀ i v₁ v₂ ys nx own C oC D m₂ h tk (E' : Value → Shared → Prop), i < n → PP i v₁ v₂ → J i ys nx → Apart wr C D nx → NsObj oC m₂ → m₂ x = some v₁ → m₂ x₂ = some v₂ → Fr h₀ L h m → News h₀ L h (own ++ (C, oC) :: (D, lst ys) :: nx) → C ≠ D → (∀ b ∈ wr, b < C) → ys.length ≤ i →
      wpAny (model prog w) A (forIn ifs true fun c r => if r = true then do let ok ← isTrue c (compEnvC scope cl C env) (eval c (compEnvC scope cl C env)); pure (ForInStep.yield ok) else pure (ForInStep.yield r)) (fun ok s' =>
        if ok = true then wpAny (model prog w) A (eval elt (compEnvC scope cl C env)) (fun y s'' => ElEnd h₀ L m wr own C oC D (lst ys) { s₂ with heap := h, toks := tk } (J (i + 1) (ys ++ [y])) s'') E' s'
        else ElEnd h₀ L m wr own C oC D (lst ys) { s₂ with heap := h, toks := tk } (J (i + 1) ys) s') E' { s₂ with heap := h, toks := tk })
    (hRR : ∀ D C h tk m' ys news', Fr h₀ L h m → News h₀ L h ((D, lst ys) :: news') → (∀ p ∈ news', p.1 ≠ D) → h.Ns C m' → h₀.get? C = none → h₀.get? D = none → C ≠ L → D ≠ L → C ≠ D → (∀ p ∈ news', p.1 ≠ C) → J n ys news' → RR (.ref D) C (.ok .next) { s₂ with heap := h, toks := tk }) :
    wpAny (model prog w) A (newList []) (fun acc s₃ => wpAny (model prog w) A (newFunctionEnv scope env.globals cl [] env.qual none .none (some env)) (fun cenv s₄ =>
      codeAny (model prog w) A (.compStart (.ListComp elt [⟨.Tuple [.Name x px, .Name x₂ px₂] tk tp, iter, ifs, 0⟩] scope pos) 0 (.ref I) acc { cenv with scope := relabel scope env }) (RR acc cenv.locals) s₄) E s₃) E s₂ := by
  refine wpAny_newObj_type (wpAny_newFunctionEnv hcell (by intro y hy; simp at hy) (fun h₁ hns₁ hsb₁ => ?_) hkind)
  dsimp only at hns₁ hsb₁ ⊢
  generalize hH2 : s₂.heap.push { cls := .type "list", dict := none, data := .seq ([] : List Value).toArray } = H2 at hns₁ hsb₁ ⊢
  have hC : H2.objs.size = s₂.heap.objs.size + 1 := by rw [← hH2, Heap.size_push]
  generalize hCc : H2.objs.size = C at hns₁ hsb₁ hC ⊢
  generalize hDd : s₂.heap.objs.size = D at hC ⊢
  have hDC : D ≠ C := by rw [hC]; exact Nat.ne_of_lt (Nat.lt_succ_self _)
  have below : ∀ b, b < s₂.heap.objs.size → b ≠ C ∧ b ≠ D := fun b hb => ⟨by rw [hC, ← hDd]; exact Nat.ne_of_lt (Nat.lt_succ_of_lt hb), by rw [← hDd]; exact Nat.ne_of_lt hb⟩
  have fpC : C ∉ fp := fun hm => (below _ (hfp _ hm)).1 rfl
  have fpD : D ∉ fp := fun hm => (below _ (hfp _ hm)).2 rfl
  have wrC : C ∉ wr := fun hm => fpC (W.sub _ hm)
  have wrD : D ∉ wr := fun hm => fpD (W.sub _ hm)
  have hLw : L ∉ wr := fun hm => hLf (W.sub _ hm)
  have old : ∀ b o, s₂.heap.get? b = some o → h₁.get? b = some o := fun b o e => hsb₁.extBut b o (below b (Heap.lt_size e)).1 (Heap.get?_push_of_some _ (hH2 ▸ Heap.get?_push_of_some _ e))
  have hacc : h₁.get? D = some (lst []) := hsb₁.extBut _ _ hDC (Heap.get?_push_of_some _ (hH2 ▸ (hDd ▸ Heap.get?_push_size _ rfl)))
  have hst₁ : St 0 h₁ := W.frame _ _ _ hst fun b _ o e => old b o e
  have fresh₀ : ∀ a, s₂.heap.objs.size ≤ a → h₀.get? a = none := fun a ha => by
    cases e : h₀.get? a with
    | none => rfl
    | some o' => exact absurd (Heap.lt_size (F.keep a o' e)) (Nat.not_lt.mpr ha)
  have hD₀ : h₀.get? D = none := fresh₀ _ (by rw [hDd]; exact Nat.le_refl _)
  have hC₀ : h₀.get? C = none := fresh₀ _ (by rw [hC, hDd]; exact Nat.le_succ _)
  have hLlt : L < s₂.heap.objs.size := F.ns.lt
  have hDL : D ≠ L := Ne.symm (below L hLlt).2
  have hCL : C ≠ L := Ne.symm (below L hLlt).1
  have ap₀ : Apart wr C D news := fun p hp => ⟨off p hp, below _ (Heap.lt_size (N p hp).1)⟩
  have keep₀ : ∀ {b o}, h₀.get? b = some o → b ∉ wr := fun {b o} e hb => by rw [hwr b hb] at e; cases e
  have loop : ∀ s₃ : Shared, s₃ = { s₂ with heap := h₁, toks := s₂.toks + ([] : List (Str × Value)).length } →
      codeAny (model prog w) A (.compLoop (.ListComp elt [⟨.Tuple [.Name x px, .Name x₂ px₂] tk tp, iter, ifs, 0⟩] scope pos) 0 (.ref I) (.ref D) (compEnvC scope cl C env)) (RR (.ref D) C) s₃ := by
    rintro s₃ rfl
    refine bk_loop
      (fun k s' => ∃ h' tk i ys m' nx, s' = { s₂ with heap := h', toks := tk } ∧ i ≤ n ∧ k = n + 1 - i ∧ ys.length ≤ i ∧ St i h' ∧ Fr h₀ L h' m ∧ h'.Ns C m' ∧ News h₀ L h' ((D, lst ys) :: nx) ∧ Apart wr C D nx ∧ J i ys nx) ?_ (n + 1)
      ⟨h₁, _, 0, [], _, news, rfl, Nat.zero_le _, rfl, Nat.le_refl _, hst₁, F.keeps old, hns₁, fun p hp => ?_, ap₀, h0⟩
    · rintro k s' ⟨h', tk, i, ys, m', nx, rfl, hi, rfl, hyl, hst', F', hn', N', ap', hJ⟩
      have step : ∀ h₁ : Heap, (∀ b o, b ∉ wr → h'.get? b = some o → h₁.get? b = some o) → Fr h₀ L h₁ m ∧ h₁.Ns C m' ∧ News h₀ L h₁ ((D, lst ys) :: nx) := fun h₁ hk =>
        ⟨⟨F'.ns.at' fun o e => hk _ o hLw e, fun b o e => hk b o (keep₀ e) (F'.keep b o e), F'.above⟩, hn'.at' fun o e => hk _ o wrC e, fun p hp => by
          refine ⟨hk _ _ ?_ (N' p hp).1, (N' p hp).2⟩
          rcases List.mem_cons.mp hp with rfl | hp
          · exact wrD
          · exact (ap' p hp).1⟩
      by_cases hlt : i < n
      · refine W.item i _ _ _ hlt hst' fun v h₂ tk₂ hMd hk₂ => ?_
        refine W.go i v _ _ _ hMd fun h₃ hPv hst₃ hk₃ => ?_
        obtain ⟨F₃, n₃, N₃⟩ := step h₃ fun b o hb e => hk₃ b o hb (hk₂ b o hb e)
        obtain ⟨T, v₁, v₂, rfl, hT, hpp⟩ := hP _ _ _ hPv
        refine assign_Tuple_tuple hh hT rfl rfl fun h₅ he => ?_
        have he' : ∀ b o, h₃.get? b = some o → h₅.get? b = some o := fun b o e => he b o (Nat.ne_of_lt (Heap.lt_size e)) e
        refine assignInOrder_cons (wpAny_assign_Name (wpAny_storeName_local (lookup_relabel_local hx) (n₃.at' fun o e => he' _ o e) (fun h₆ hn₆ hs₆ => ?_) (by simp [compEnvC, relabel, hkind])))
        refine assignInOrder_cons (wpAny_assign_Name (wpAny_storeName_local (lookup_relabel_local hx₂) hn₆ (fun h₇ hn₇ hs₇ => ?_) (by simp [compEnvC, relabel, hkind])))
        refine assignInOrder_nil ?_
        have old7 : ∀ b o, b ≠ C → h₃.get? b = some o → h₇.get? b = some o := fun b o hb e => hs₇.extBut b o hb (hs₆.extBut b o hb (he' b o e))
        have hst₇ : St (i + 1) h₇ := W.frame _ _ _ hst₃ fun b hb o e => old7 b o (fun q => fpC (q ▸ hb)) e
        obtain ⟨oC, heC, hoC⟩ := ns_obj hn₇
        have F₇ : Fr h₀ L h₇ m := ((F₃.keeps he').change hs₆ hCL hC₀).change hs₇ hCL hC₀
        have Nown : News h₀ L h₇ (PyProof.Rows.ownOf h₀ fp h₇) := news_ownOf hLf
        have N₇ : News h₀ L h₇ (PyProof.Rows.ownOf h₀ fp h₇ ++ (C, oC) :: (D, lst ys) :: nx) := fun p hp => by
          rcases List.mem_append.mp hp with hp | hp
          · exact Nown p hp
          · rcases List.mem_cons.mp hp with rfl | hp
            · exact ⟨heC, hCL, hC₀⟩
            · have z := N₃ p hp
              refine ⟨old7 _ _ ?_ z.1, z.2⟩
              rcases List.mem_cons.mp hp with rfl | hp
              · exact hDC
              · exact (ap' p hp).2.1
        have carry : ∀ h₈, Fr h₀ L h₈ m → News h₀ L h₈ (PyProof.Rows.ownOf h₀ fp h₇) → St (i + 1) h₈ := fun h₈ F₈ N₈ => W.frame _ _ _ hst₇ fun b hb o e => by
          cases hn : h₀.get? b with
          | some o₀ =>
            have : o₀ = o := by have q := F₇.keep b o₀ hn; rw [e] at q; exact (Option.some.inj q).symm
            exact this ▸ F₈.keep b o₀ hn
          | none => exact (N₈ _ (mem_ownOf hb hn e)).1
        refine wpAny_mono (turn i v₁ v₂ ys nx (PyProof.Rows.ownOf h₀ fp h₇) C oC D _ h₇ _ _ hlt hpp hJ ap' hoC (by simp [hxx]) (by simp) F₇ N₇ (Ne.symm hDC) (fun b hb => by rw [hC, ← hDd]; exact Nat.lt_succ_of_lt (hfp _ (W.sub _ hb))) hyl) (fun ok s₄ h₄ => ?_) fun _ _ e => e
        cases ok with
        | true =>
          simp only [if_true] at h₄ ⊢
          refine wpAny_mono h₄ (fun y s₅ h₅ => ?_) fun _ _ e => e
          obtain ⟨h₈, tk₈, nx₈, rfl, F₈, N₈, ap₈, hJ₈⟩ := h₅
          have zC := (N₈ (C, oC) (List.mem_append_right _ List.mem_cons_self)).1
          have zD := (N₈ (D, lst ys) (List.mem_append_right _ (List.mem_cons_of_mem _ List.mem_cons_self))).1
          have N₈' : News h₀ L h₈ nx₈ := fun p hp => N₈ p (List.mem_append_right _ (List.mem_cons_of_mem _ (List.mem_cons_of_mem _ hp)))
          have hst₈ := carry h₈ F₈ fun p hp => N₈ p (List.mem_append_left _ hp)
          refine append_at (hsz := by show ys.toArray.size ≤ sizeLine; rw [List.size_toArray]; exact Nat.le_trans (Nat.le_trans hyl hi) hsz) zD fun h₉ hs₉ hD₉ => ?_
          refine ⟨n + 1 - (i + 1), by omega, h₉, tk₈, i + 1, ys ++ [y], _, nx₈, rfl, hlt, rfl, by rw [List.length_append, List.length_singleton]; exact Nat.succ_le_succ hyl, W.frame _ _ _ hst₈ fun b hb o e => hs₉.extBut b o (fun q => fpD (q ▸ hb)) e, F₈.change hs₉ hDL hD₀,
            (hoC.ns zC).sameBut hs₉ (Ne.symm hDC), fun p hp => ?_, ap₈, hJ₈⟩
          rcases List.mem_cons.mp hp with rfl | hp
          · exact ⟨hD₉.trans (congrArg some (lst_snoc ys y)), hDL, hD₀⟩
          · exact ⟨hs₉.extBut _ _ (ap₈ p hp).2.2 (N₈' p hp).1, (N₈' p hp).2⟩
        | false =>
          simp only [Bool.false_eq_true, if_false] at h₄ ⊢
          obtain ⟨h₈, tk₈, nx₈, rfl, F₈, N₈, ap₈, hJ₈⟩ := h₄
          have zC := (N₈ (C, oC) (List.mem_append_right _ List.mem_cons_self)).1
          refine ⟨n + 1 - (i + 1), by omega, h₈, tk₈, i + 1, ys, _, nx₈, rfl, hlt, rfl, Nat.le_succ_of_le hyl, carry h₈ F₈ fun p hp => N₈ p (List.mem_append_left _ hp), F₈, hoC.ns zC, fun p hp => N₈ p (List.mem_append_right _ (List.mem_cons_of_mem _ hp)), ap₈, hJ₈⟩
      · obtain rfl : i = n := Nat.le_antisymm hi (Nat.not_lt.mp hlt)
        refine W.done _ _ _ hst' fun h₂ tk₂ hk₂ => ?_
        obtain ⟨F₂, n₂, N₂⟩ := step h₂ hk₂
        exact hRR _ _ h₂ tk₂ _ ys nx F₂ N₂ (fun p hp => (ap' p hp).2.2) n₂ hC₀ hD₀ hCL hDL (Ne.symm hDC) (fun p hp => (ap' p hp).2.1) hJ
    · rcases List.mem_cons.mp hp with rfl | hp
      · exact ⟨hacc, hDL, hD₀⟩
      · exact ⟨old _ _ (N p hp).1, (N p hp).2⟩
  exact codeAny_compStart_list (loop _ rfl) (self _ _ _ hst₁ (loop _ rfl))
end
end Mine

namespace Mine
open PySem.Calls PyProof.V PySem.Spec

theorem d_entry_loop : entryFor table "dict.update.loop" = some Builtin.«dict.update.loop» := entryFor_of_tree (by kernel_rfl)
theorem d_plain_loop : plainId "dict.update.loop" = true := by decide +kernel
theorem d_list_keys : typeLookup (.type "list") "keys" = pure none := am_miss_of_fast (by kernel_rfl)

section
variable {prog : Program} {w : World} {A : Around} {E : Value → Shared → Prop} {s : Shared}

theorem d_nokeys {a : Addr} {o : Obj} {xs : Array Value} {k : Nat} {Q : Option Value → Shared → Prop}
    (hx : s.heap.get? a = some o) (hc : o.cls = .type "list") (hdat : o.data = .seq xs k) (hd : o.dict = none) (hA : A.handled = none)
    (h : ∀ h' tk, (∀ b o, s.heap.get? b = some o → h'.get? b = some o) → Q none { s with heap := h', toks := tk }) :
    wpAny (model prog w) A (getAttr? (.ref a) "keys") Q E s := by
  obtain ⟨c, dct, dat, sl⟩ := o
  simp only at hc hdat hd
  subst hc hdat hd
  obtain ⟨hp, g, d, tk, os⟩ := s
  have hT : ∀ tk', (⟨hp, g, d, tk', os⟩ : Shared).TypeIs (.ref a) "list" := fun _ => ⟨_, hx, rfl⟩
  have f1 := sub_AttributeError
  have f3 := PySem.F.slot_list_getattribute.lookup
  have f4 := PySem.F.slot_list_getattribute.bind (.ref a)
  have f5 := am_list_getattr_none
  unfold getAttr? getAttrBy? getAttrBy
  repeat (any_goals (first | assumption | exact hT _ | ((with_reducible show wpAny _ _ (call (Value.builtin "list.__getattribute__") _ _) _ _ _); refine call_meets PySem.F.slot_list_getattribute (hT _) am_entry_list_getattribute (PySem.F.args_list_getattribute_2 _ _) (meets_getattribute_miss_list a xs k sl (Str.ofString "keys") _ d_list_keys (by decide +kernel) (by size_fits)) ⟨hx, hA, fun h' tk' e hx' => ?_⟩) | wp_step))
  have hk := hx'.of.keeps
  obtain ⟨t', u', he⟩ := hx'.there
  show wpAny _ _ (getattributeRaised _ _ _ _ _ _ _) _ _ _
  unfold getattributeRaised
  repeat (any_goals (first | assumption | wp_step))
  exact h _ _ hk

end
end Mine

namespace Mine
open PySem.Calls PyProof.V PySem.Spec

section
variable {prog : Program} {w : World} {A : Around} {E : Value → Shared → Prop} {s : Shared}

/-- the loop of dict(pairs): J i h tells the dict D's state behind i pairs -/
theorem d_loop {R : Result → Shared → Prop} {I l D : Addr} {its : Array Value} {kv : Nat → Value × Value} {hb : Heap} (J : Nat → Heap → Prop) (hh : A.handled = none)
    (hlI : l ≠ I) (hDI : D ≠ I) (hDl : D ≠ l)
    (hT : ∀ i, i < its.size → ∃ T, its[i]? = some (.ref T) ∧ T ≠ I ∧ T ≠ D ∧ IsTup hb T #[(kv i).1, (kv i).2])
    (frame : ∀ i h h', J i h → (∀ b o, b ≠ I → h.get? b = some o → h'.get? b = some o) → J i h')
    (step : ∀ i (s₁ : Shared), i < its.size → (∀ b o, b ≠ I → b ≠ D → hb.get? b = some o → s₁.heap.get? b = some o) → J i s₁.heap →
      wpAny (model prog w) A.in1 (dictSet D (kv i).1 (kv i).2) (fun _ s₂ => ∃ h' tk, s₂ = { s₁ with heap := h', toks := tk } ∧ Heap.SameBut D s₁.heap h' ∧ J (i + 1) h') (fun e s' => R (.error e) s') s₁) :
    ∀ (k i : Nat) (s : Shared), its.size - i = k → i ≤ its.size → s.heap.IsListIter I l i → s.heap.IsList l its → (∀ b o, b ≠ I → b ≠ D → hb.get? b = some o → s.heap.get? b = some o) → J i s.heap →
      (∀ h' tk, (∀ b o, b ≠ I → b ≠ D → hb.get? b = some o → h'.get? b = some o) → J its.size h' → R (.ok (.ret .none)) { s with heap := h', toks := tk }) →
      codeAny (model prog w) A (.builtin "dict.update.loop" ⟨[.ref D, .ref I, rawInt i, .none], []⟩) R s := by
  have W := Walks.list (prog := prog) (w := w) (A := A.in1) hh I l hlI its
  intro k
  induction k with
  | zero =>
    intro i s hk hi hit hl hkeep hJ hR
    have hin : i = its.size := by omega
    subst hin
    refine codeAny_builtin d_entry_loop ?_
    rw [Around.under_plainId d_plain_loop _]
    show wpAny _ A.in1 (pyNext (.ref I) >>= _) _ _ s
    refine wpAny_bind (W.done s _ _ ⟨hit, hl⟩ fun h' tk hk' => ?_)
    show wpAny _ A.in1 (Builtin.Dict.addKeywords D [] >>= _) _ _ _
    refine wpAny_bind (wpAny_pure (wpAny_pure (hR h' tk (fun b o hbI hbD e => hk' b o (by simpa using hbI) (hkeep b o hbI hbD e)) (frame _ _ _ hJ fun b o hbI e => hk' b o (by simpa using hbI) e))))
  | succ k ih =>
    intro i s hk hi hit hl hkeep hJ hR
    have hlt : i < its.size := by omega
    obtain ⟨T, hTi, hTI, hTD, hTt⟩ := hT i hlt
    refine codeAny_builtin d_entry_loop ?_
    rw [Around.under_plainId d_plain_loop _]
    show wpAny _ A.in1 (pyNext (.ref I) >>= _) _ _ s
    refine wpAny_bind (W.item i s _ _ hlt ⟨hit, hl⟩ fun v h' tk hP hst' hk' => ?_)
    have hv : v = .ref T := by have hP' : its[i]? = some v := hP; rw [hTi] at hP'; exact (Option.some.inj hP').symm
    subst hv
    have keep' : ∀ b o, b ≠ I → b ≠ D → hb.get? b = some o → h'.get? b = some o := fun b o hbI hbD e => hk' b o (by simpa using hbI) (hkeep b o hbI hbD e)
    obtain ⟨oT, hoT, hcT, nT, hdT⟩ := hTt
    have hoT' := keep' T oT hTI hTD hoT
    refine wpAny_bind (wpAny_holding ?_)
    refine wpAny_bind (wpAny_tryCatch ?_)
    unfold Builtin.Dict.pairItems
    refine wpAny_bind (wpAny_typeOf (T := "tuple") ⟨oT, hoT', hcT⟩ ?_)
    rw [if_pos (by decide)]
    refine wpAny_bind (wpAny_seqItems hoT' hdT ?_)
    refine wpAny_pure ?_
    show wpAny _ A.in1 (holding [(kv i).1, (kv i).2] (dictSet D (kv i).1 (kv i).2)) _ _ _
    refine (wpAny_holding (wpAny_mono (step i _ hlt keep' (frame _ _ _ hJ fun b o hbI e => hk' b o (by simpa using hbI) e)) (fun _ s₂ hs₂ => ?_) fun _ _ e => e))
    obtain ⟨h₂, tk₂, rfl, hs, hJ₂⟩ := hs₂
    refine wpAny_pure ⟨plainId_quiet d_plain_loop _, ?_⟩
    have e1 : rawInt ((i : Int) + 1) = rawInt ((i + 1 : Nat) : Int) := by congr 1
    rw [e1]
    have hlD : ∀ o, h'.get? l = some o → h₂.get? l = some o := fun o e => hs.extBut l o (Ne.symm hDl) e
    have hID : ∀ o, h'.get? I = some o → h₂.get? I = some o := fun o e => hs.extBut I o (Ne.symm hDI) e
    refine ih (i + 1) _ (by omega) hlt (hst'.1.at hID) (hst'.2.at hlD) (fun b o hbI hbD e => hs.extBut b o hbD (keep' b o hbI hbD e)) hJ₂ fun h₃ tk₃ hk₃ hJ₃ => ?_
    exact hR h₃ tk₃ hk₃ hJ₃

/-- dict(list of pairs), whole -/
theorem d_call {l : Addr} {its : Array Value} {kv : Nat → Value × Value} {Q : Value → Shared → Prop} (J : Nat → Heap → Prop) (hh : A.handled = none) (hol : ∃ o, s.heap.get? l = some o ∧ o.cls = .type "list" ∧ o.dict = none ∧ ∃ n, o.data = .seq its n)
    (hT : ∀ i, i < its.size → ∃ T, its[i]? = some (.ref T) ∧ IsTup s.heap T #[(kv i).1, (kv i).2])
    (J0 : ∀ h, h.get? s.heap.objs.size = some { cls := .type "dict", data := .dict #[] } → J 0 h)
    (frame : ∀ I i h h', s.heap.objs.size < I → J i h → (∀ b o, b ≠ I → h.get? b = some o → h'.get? b = some o) → J i h')
    (step : ∀ i (s₁ : Shared) (R : Value → Shared → Prop), i < its.size → (∀ b o, s.heap.get? b = some o → s₁.heap.get? b = some o) → J i s₁.heap →
      wpAny (model prog w) A.in1.in1 (dictSet s.heap.objs.size (kv i).1 (kv i).2) (fun _ s₂ => ∃ h' tk, s₂ = { s₁ with heap := h', toks := tk } ∧ Heap.SameBut s.heap.objs.size s₁.heap h' ∧ J (i + 1) h') R s₁)
    (h : ∀ h' tk, (∀ b o, s.heap.get? b = some o → h'.get? b = some o) → J its.size h' → Q (.ref s.heap.objs.size) { s with heap := h', toks := tk }) :
    wpAny (model prog w) A (call (.type "dict") [.ref l]) Q E s := by
  refine callType_codes (Q₁ := fun obj s₁ => obj = .ref s.heap.objs.size ∧ s₁ = { s with heap := s.heap.push { cls := .type "dict", data := .dict #[] } }) PySem.F.kt_called_dict (PySem.F.kt_typeCall_dict_1 _) PySem.F.entry_dict_init (kt_code_dict_new _ ⟨rfl, rfl⟩) ?_
  rintro obj s₁ ⟨rfl, rfl⟩
  obtain ⟨o, ho, hc, hdn, n, hdat⟩ := hol
  generalize hD : s.heap.objs.size = D at *
  have hDn : (s.heap.push { cls := .type "dict", data := .dict #[] }).get? D = some { cls := .type "dict", data := .dict #[] } := hD ▸ Heap.get?_push_size _ rfl
  have hlt : l < D := hD ▸ Heap.lt_size ho
  have up : ∀ b o, s.heap.get? b = some o → (s.heap.push { cls := .type "dict", data := .dict #[] }).get? b = some o := fun b o e => Heap.get?_push_of_some _ e
  have hTy : ∀ tk, Shared.TypeIs { s with heap := s.heap.push { cls := .type "dict", data := .dict #[] }, toks := tk } (.ref D) "dict" := fun tk => ⟨_, hDn, rfl⟩
  refine ⟨hTy _, PySem.F.args_dict_init_2 _ _, ?_⟩
  unfold Builtin.«dict.__init__»
  refine wpAny_bind ?_
  unfold Builtin.Dict.selfAndRest
  refine wpAny_bind (wpAny_notOrdered_dict (hTy _) ?_)
  show wpAny _ _ (pure (D, [Value.ref l])) _ _ _
  refine wpAny_pure ?_
  show wpAny _ _ (Builtin.Dict.updateFrom "dict.__init__" D (.ref l) [] .none) _ _ _
  unfold Builtin.Dict.updateFrom
  refine wpAny_bind (wpAny_typeOf (T := "list") ⟨o, up _ _ ho, hc⟩ ?_)
  rw [if_pos (by decide)]
  refine wpAny_bind (d_nokeys (up _ _ ho) hc hdat hdn hh fun h₁ tk₁ hk₁ => ?_)
  simp only [Option.isNone_none, if_true]
  refine wpAny_bind (wpAny_rule ?_)
  have ho₁ : h₁.get? l = some o := hk₁ _ _ (up _ _ ho)
  have hl₁ : h₁.IsList l its := ⟨o, ho₁, hc, n, hdat⟩
  have hD₁ : h₁.get? D = some { cls := .type "dict", data := .dict #[] } := hk₁ _ _ hDn
  have hDI : D < h₁.objs.size := Heap.lt_size hD₁
  refine wpAny_bind (wpAny_pyIter_list hl₁ ?_)
  refine wpAny_pure ⟨plainId_quiet d_plain_loop _, ?_⟩
  dsimp only
  generalize hI : h₁.objs.size = I at *
  have up₁ : ∀ b o, s.heap.get? b = some o → (h₁.push { cls := .type "list_iterator", data := .fields #[.ref l, .int 0 0] }).get? b = some o := fun b o e => Heap.get?_push_of_some _ (hk₁ _ _ (up _ _ e))
  have hltD : ∀ b o, s.heap.get? b = some o → b ≠ I ∧ b ≠ D := fun b o e => by
    have q : b < D := hD ▸ Heap.lt_size e
    exact ⟨Nat.ne_of_lt (Nat.lt_trans q hDI), Nat.ne_of_lt q⟩
  refine d_loop (A := A.in1) (its := its) (kv := kv) (hb := s.heap) J hh (hltD _ _ ho).1 (Nat.ne_of_lt hDI) (Nat.ne_of_gt hlt) (fun i hi => ?_) (fun i h h' hJ hk => frame I i h h' hDI hJ hk) (fun i s₂ hi hk hJ => step i s₂ _ hi (fun b o e => hk b o (hltD b o e).1 (hltD b o e).2 e) hJ)
    its.size 0 _ rfl (Nat.zero_le _) ⟨_, hI ▸ Heap.get?_push_size _ rfl, rfl, rfl⟩ (hl₁.push _) (fun b o _ _ e => up₁ b o e) (J0 _ (Heap.get?_push_of_some _ hD₁)) fun h' tk hk hJ => ?_
  · obtain ⟨T, h1, h2⟩ := hT i hi
    obtain ⟨oT, hoT, r⟩ := id h2
    exact ⟨T, h1, (hltD _ _ hoT).1, (hltD _ _ hoT).2, h2⟩
  · exact ⟨rfl, h h' tk (fun b o e => hk b o (hltD b o e).1 (hltD b o e).2 e) hJ⟩
end
end Mine

namespace Mine
open PySem.Calls PyProof.V PySem.Spec PyProof.Rows.LCg

/-- a list's items are pairs of a key's tuple and an int -/
inductive PairsL (prog : Program) (w : World) (news : List (Addr × Obj)) : List Value → List (Int × Int) → Prop
  | nil : PairsL prog w news [] []
  | cons {T a : Addr} {oT : Obj} {k v : Int} {t : Tok} {n : Nat} {ys : List Value} {kvs : List (Int × Int)} : (T, oT) ∈ news → oT.cls = .type "tuple" → oT.data = .seq #[.ref a, .int v t] n → KeyL prog w news a k → PairsL prog w news ys kvs →
      PairsL prog w news (.ref T :: ys) ((k, v) :: kvs)
section
variable {prog : Program} {w : World} {news news' : List (Addr × Obj)} {ys zs : List Value} {kvs lvs : List (Int × Int)}
theorem PairsL.mono (P : PairsL prog w news ys kvs) (hs : ∀ p ∈ news, p ∈ news') : PairsL prog w news' ys kvs := by
  induction P with
  | nil => exact .nil
  | cons h1 h2 h3 h4 _ ih => exact .cons (hs _ h1) h2 h3 (h4.mono hs) ih
theorem PairsL.append (P : PairsL prog w news ys kvs) (R : PairsL prog w news zs lvs) : PairsL prog w news (ys ++ zs) (kvs ++ lvs) := by
  induction P with
  | nil => exact R
  | cons h1 h2 h3 h4 _ ih => exact .cons h1 h2 h3 h4 ih
theorem PairsL.length (P : PairsL prog w news ys kvs) : ys.length = kvs.length := by
  induction P with
  | nil => rfl
  | cons _ _ _ _ _ ih => rw [List.length_cons, List.length_cons, ih]
theorem PairsL.at (P : PairsL prog w news ys kvs) : ∀ i, i < kvs.length → ∃ T a oT k v t n, ys[i]? = some (.ref T) ∧ kvs[i]? = some (k, v) ∧ (T, oT) ∈ news ∧ oT.cls = .type "tuple" ∧ oT.data = .seq #[.ref a, .int v t] n ∧ KeyL prog w news a k := by
  induction P with
  | nil => intro i hi; exact absurd hi (Nat.not_lt_zero _)
  | cons h1 h2 h3 h4 _ ih =>
    intro i hi
    cases i with
    | zero => exact ⟨_, _, _, _, _, _, _, rfl, rfl, h1, h2, h3, h4⟩
    | succ i => exact ih i (Nat.lt_of_succ_lt_succ hi)
end

section
variable {prog : Program} {w : World} {A : Around} {E : Value → Shared → Prop} {s : Shared} {h₀ h : Heap} {L d a : Addr} {m : Str → Option Value} {news : List (Addr × Obj)} {o : Obj} {xs : List (Int × Addr × Value)} {kvs : List (Int × Int)} {k : Int}

theorem TabO.dictG (T : TabO prog w news o xs kvs) (N : ∀ p ∈ news, h.get? p.1 = some p.2) (hd : h.get? d = some o) : h.DictOfH (atKind prog w) d xs :=
  let ⟨es, ep, r, e, n, hk, _⟩ := T
  ⟨o, es, ep, hd, r.x, r.d, e, fun x hx => let ⟨_, h1, t⟩ := hk x hx; t.key (N _ h1), n⟩
theorem KeyL.isG (K : KeyL prog w news a k) (N : ∀ p ∈ news, h.get? p.1 = some p.2) : (atKind prog w).is h k a := let ⟨_, h1, t⟩ := K; t.key (N _ h1)

theorem tb_dictSet {v : Int} {t : Tok} {Q : Unit → Shared → Prop} (hu : A.units < cLine) (N : ∀ p ∈ news, s.heap.get? p.1 = some p.2) (hd : s.heap.get? d = some o)
    (T : TabO prog w news o xs kvs) (K : KeyL prog w news a k) (hsz : kvs.length ≤ sizeLine)
    (h : ∀ h' o', h'.get? d = some o' → Heap.SameBut d s.heap h' → TabO prog w news o' (storedH xs k a (.int v t)) (putT kvs k v) → Q () { s with heap := h', toks := s.toks + 4 }) :
    wpAny (model prog w) A (dictSet d (.ref a) (.int v t)) Q E s := by
  refine wpAny_dictSet_heap (knd := atKind prog w) (hsz := by rw [T.vals.length]; exact hsz) hu (K.isG N) (T.dictG N hd) fun h' hm' hs' => ?_
  obtain ⟨o', es', ep', ho', hc', hd', he', _, hn'⟩ := hm'
  refine h h' o' ho' hs' ⟨es', ep', ⟨hc', hd'⟩, he', hn', fun x hx => ?_, T.vals.put k a v t⟩
  rcases mem_storedH hx with ⟨y, hy, e1, e2⟩ | ⟨e1, e2⟩
  · rw [e1, e2]; exact T.key hy
  · rw [e1, e2]; exact K

theorem TabO.fresh : TabO prog w news { cls := .type "dict", data := .dict #[] } [] [] := ⟨#[], 0, ⟨⟨rfl, rfl, rfl⟩, rfl⟩, rfl, List.nodup_nil, fun _ hx => (nomatch hx), .nil⟩

/-- dict(pairs) of key tuples -/
theorem d_tab {l : Addr} {ys : List Value} {Q : Value → Shared → Prop} (hu : A.units + 3 < cLine) (hh : A.handled = none) (F : Fr h₀ L s.heap m) (N : News h₀ L s.heap news) (hbig : h₀.NoLimit)
    (hl : (l, lst ys) ∈ news) (P : PairsL prog w news ys kvs) (hn : (kvs.map (·.1)).Nodup) (hz : kvs.length ≤ sizeLine)
    (k : ∀ D oD h' tk xs, Fr h₀ L h' m → News h₀ L h' ((D, oD) :: news) → (∀ p ∈ news, p.1 < D) → (D == sysModules) = false → TabO prog w news oD xs kvs → Q (.ref D) { s with heap := h', toks := tk }) :
    wpAny (model prog w) A (call (.type "dict") [.ref l]) Q E s := by
  have hsz : ys.toArray.size = kvs.length := by rw [List.size_toArray]; exact P.length
  have hkv : ∀ i, ∃ p : Value × Value, i < kvs.length → ∃ T a oT k v t n, ys[i]? = some (.ref T) ∧ kvs[i]? = some (k, v) ∧ (T, oT) ∈ news ∧ oT.cls = .type "tuple" ∧ oT.data = .seq #[.ref a, .int v t] n ∧ KeyL prog w news a k ∧ p = (.ref a, .int v t) := fun i => by
    by_cases hi : i < kvs.length
    · obtain ⟨T, a, oT, k, v, t, n, h1, h2, h3, h4, h5, h6⟩ := P.at i hi
      exact ⟨(.ref a, .int v t), fun _ => ⟨T, a, oT, k, v, t, n, h1, h2, h3, h4, h5, h6, rfl⟩⟩
    · exact ⟨(.none, .none), fun q => absurd q hi⟩
  have Nd : ∀ p ∈ news, p.1 < s.heap.objs.size := fun p hp => Heap.lt_size (N p hp).1
  have hnewD : h₀.get? s.heap.objs.size = none := next_is_new F
  refine d_call (its := ys.toArray) (kv := fun i => (hkv i).choose) (fun i h => ∃ oD xs, h.get? s.heap.objs.size = some oD ∧ TabO prog w news oD xs (kvs.take i)) hh ⟨_, N.get hl, rfl, rfl, _, rfl⟩ (fun i hi => ?_) (fun h hD => ⟨_, [], hD, TabO.fresh⟩)
    (fun I i h h' hI ⟨oD, xs, hD, T⟩ hk => ⟨oD, xs, hk _ _ (Nat.ne_of_lt hI) hD, T⟩) (fun i s₁ R hi hk ⟨oD, xs, hD, T⟩ => ?_) fun h' tk hk ⟨oD, xs, hD, T⟩ => ?_
  · obtain ⟨T, a, oT, k, v, t, n, h1, h2, h3, h4, h5, h6, h7⟩ := (hkv i).choose_spec (hsz ▸ hi)
    refine ⟨T, by simpa using h1, ?_⟩
    show IsTup s.heap T #[(hkv i).choose.1, (hkv i).choose.2]
    rw [h7]
    exact ⟨oT, N.get h3, h4, n, h5⟩
  · obtain ⟨T', a, oT, k, v, t, n, h1, h2, h3, h4, h5, h6, h7⟩ := (hkv i).choose_spec (hsz ▸ hi)
    show wpAny _ _ (dictSet s.heap.objs.size (hkv i).choose.1 (hkv i).choose.2) _ _ _
    rw [h7]
    have ht : kvs.take (i + 1) = kvs.take i ++ [(k, v)] := by rw [List.take_add_one, h2]; rfl
    have hnone : getT (kvs.take i) k = none := getT_none_of fun hq => by
      have q : ((kvs.take (i + 1)).map (·.1)).Nodup := hn.sublist ((List.take_sublist _ _).map _)
      rw [ht, List.map_append, List.nodup_append] at q
      exact q.2.2 k hq k (by simp) rfl
    refine tb_dictSet (by show A.units + 1 + 1 < cLine; omega) (fun p hp => hk _ _ (N.get hp)) hD T h6 (Nat.le_trans (by rw [List.length_take]; exact Nat.min_le_right _ _) hz) fun h' o' ho' hs' T' => ?_
    rw [getT_append_none hnone, ← ht] at T'
    exact ⟨h', _, rfl, hs', _, _, ho', T'⟩
  · rw [hsz, List.take_length] at T
    refine k _ oD h' tk xs (F.keeps hk) (fun p hp => ?_) Nd (F.notModules (modules_low hbig)) T
    rcases List.mem_cons.mp hp with rfl | hp
    · exact ⟨hD, Nat.ne_of_gt F.ns.lt, hnewD⟩
    · exact ⟨hk _ _ (N.get hp), (N p hp).2⟩
end
end Mine

namespace Mine
open PySem.Calls PyProof.V PySem.Spec PyProof.Rows.LCg

section
variable {prog : Program} {w : World} {A : Around} {E : Value → Shared → Prop} {s : Shared} {h₀ : Heap} {L : Addr} {m : Str → Option Value} {env : Env}

theorem entry_itemiter_iter : entryFor table "dict_itemiterator.__iter__" = some Builtin.«dict_keyiterator.__iter__» := entryFor_alias (id' := "dict_keyiterator.__iter__") (by kernel_rfl) rfl (by decide +kernel) (by kernel_rfl)
theorem self_itemiter {it d : Addr} {i n ep : Nat} {ok ov : Value} {Q : Value → Shared → Prop} (hit : IsItemIter s.heap it d i n ep ok ov) (h : Q (.ref it) s) : wpAny (model prog w) A (pyIter (.ref it)) Q E s := by
  have hT : s.TypeIs (.ref it) "dict_itemiterator" := ⟨_, hit, rfl⟩
  refine wpAny_pyIter_slot hT PySem.F.slot_dict_itemiterator_iter (wpAny_call_entry PySem.F.slot_dict_itemiterator_iter hT entry_itemiter_iter ?_ (PySem.F.args_dict_itemiterator_iter_1 _))
  show wpAny _ _ (ret (.ref it)) _ _ s
  exact wpAny_pure ⟨_, rfl, "dict_itemiterator", _, hT, PySem.F.slot_dict_itemiterator_next.lookup, h⟩

/-- a comprehension's turn over pairs (v₁, v₂): the tests, the element, the end -/
noncomputable def ElTurn (prog : Program) (w : World) (A : Around) (h₀ : Heap) (L : Addr) (m : Str → Option Value) (env : Env) (ifs : List PySem.Expr) (elt : PySem.Expr) (scope : Scope) (cl : List (Str × Addr)) (wr : List Addr) (own : List (Addr × Obj)) (C : Addr) (oC : Obj) (D : Addr) (oD : Obj) (s₁ : Shared)
    (J1 : Value → List (Addr × Obj) → Prop) (J0 : List (Addr × Obj) → Prop) (E' : Value → Shared → Prop) : Prop :=
  wpAny (model prog w) A (forIn ifs true fun c r => if r = true then do let ok ← isTrue c (compEnvC scope cl C env) (eval c (compEnvC scope cl C env)); pure (ForInStep.yield ok) else pure (ForInStep.yield r)) (fun ok s' =>
    if ok = true then wpAny (model prog w) A (eval elt (compEnvC scope cl C env)) (fun y s'' => ElEnd h₀ L m wr own C oC D oD s₁ (J1 y) s'') E' s'
    else ElEnd h₀ L m wr own C oC D oD s₁ J0 s') E' s₁

/-- a comprehension over d.items(), d a raw dict of the ledger -/
noncomputable def CpItems (prog : Program) (w : World) (A : Around) (h₀ : Heap) (L : Addr) (m : Str → Option Value) (env : Env) (ifs : List PySem.Expr) (elt : PySem.Expr) (x x₂ : Str) (scope : Scope) (cl : List (Str × Addr)) (Q : Value → Shared → Prop) (xv : Value) (s₁ : Shared) : Prop :=
  ∃ (V d : Addr) (od : Obj) (es : Array DictEntry) (ep : Nat) (news : List (Addr × Obj)) (J : Nat → List Value → List (Addr × Obj) → Prop), xv = .ref V ∧ A.handled = none ∧ Fr h₀ L s₁.heap m ∧ News h₀ L s₁.heap news ∧ s₁.heap.IsItemsView V d ∧ (d, od) ∈ news ∧ RawD od es ep ∧ es.size ≤ sizeLine ∧ J 0 [] news ∧
    (∀ I, (∀ p ∈ news, p.1 < I) → ∀ i e ys nx own C oC D m₂ h tk (E' : Value → Shared → Prop), es[i]? = some e → J i ys nx → Apart [I] C D nx → NsObj oC m₂ → m₂ x = some e.key → m₂ x₂ = some e.val → Fr h₀ L h m → News h₀ L h (own ++ (C, oC) :: (D, lst ys) :: nx) → C ≠ D → I < C → ys.length ≤ i →
      ElTurn prog w A h₀ L m env ifs elt scope cl [I] own C oC D (lst ys) { s₁ with heap := h, toks := tk } (fun y => J (i + 1) (ys ++ [y])) (J (i + 1) ys) E') ∧
    (∀ D h tk ys nx, Fr h₀ L h m → News h₀ L h ((D, lst ys) :: nx) → (∀ p ∈ nx, p.1 ≠ D) → J es.size ys nx → Q (.ref D) { s₁ with heap := h, toks := tk })

theorem bk_items {elt iter : PySem.Expr} {ifs : List PySem.Expr} {x x₂ : Str} {px px₂ tp : Pos} {tk} {scope : Scope} {cl : List (Str × Addr)} {pos : Pos} {Q : Value → Shared → Prop} (_F₀ : Fr h₀ L s.heap m)
    (hclos : closureFor scope env = pure cl) (hcell : ∀ y ∈ scope.names, y.2 ≠ .cell) (hkind : scope.kind = .function)
    (hnames : ∀ y ∈ scope.names, y.2 = .local → scope.names.lookup y.1 = some .local) (hx : scope.names.lookup x = some .local) (hx₂ : scope.names.lookup x₂ = some .local) (hxx : x ≠ x₂)
    (h : wpAny (model prog w) A (eval iter env) (CpItems prog w A h₀ L m env ifs elt x x₂ scope cl Q) E s)
    (hs : ∀ x, foldedSetIterable iter env x = pure x := by intro _; rfl) :
    wpAny (model prog w) A (eval (.ListComp elt [⟨.Tuple [.Name x px, .Name x₂ px₂] tk tp, iter, ifs, 0⟩] scope pos) env) Q E s := by
  rw [eval_ListComp]
  refine wpAny_comprehension_free (use := none) rfl hs hclos hkind hnames (wpAny_mono h (fun xv s₁ h₁ => ?_) fun _ _ e => e)
  obtain ⟨V, d, od, es, ep, news, J, rfl, hh, F, N, hV, hm, r, hsz, h0, turn, fin⟩ := h₁
  have hax := N _ hm
  have hne : d ≠ s₁.heap.objs.size := Nat.ne_of_lt (Heap.lt_size hax.1)
  refine rd_iter_items hV hax.1 r ?_
  refine bk_block J (fun i v₁ v₂ => ∃ e, es[i]? = some e ∧ v₁ = e.key ∧ v₂ = e.val) (rd_itemsTurns hh s₁.heap.objs.size d hne r) (fun i v h ⟨T, e, h1, h2, h3⟩ => ⟨T, _, _, h1, h3, e, h2, rfl, rfl⟩) (fun s Q E st hq => let ⟨⟨_, _, hi⟩, _⟩ := st; self_itemiter hi hq)
    hsz hh hcell hkind hx hx₂ hxx ⟨⟨.none, .none, Heap.get?_push_size _ rfl⟩, Heap.get?_push_of_some _ hax.1⟩ (fun b hb => ?_) (F.push _) (fun p hp => ⟨Heap.get?_push_of_some _ (N p hp).1, (N p hp).2⟩) ?_ (fun b hb => ?_) (fun p hp hI => ?_) h0 ?_ ?_
  · show b < (s₁.heap.push _).objs.size
    rw [Heap.size_push]
    rcases List.mem_cons.mp hb with rfl | hb
    · exact Nat.lt_succ_self _
    · rw [List.mem_singleton.mp hb]; exact Nat.lt_succ_of_lt (Heap.lt_size hax.1)
  · intro hI
    rcases List.mem_cons.mp hI with e | hI
    · exact absurd F.ns.lt (e ▸ Nat.lt_irrefl _)
    · exact hax.2.1 (List.mem_singleton.mp hI).symm
  · rw [List.mem_singleton.mp hb]; exact next_is_new F
  · exact absurd (Heap.lt_size (N p hp).1) ((List.mem_singleton.mp hI) ▸ Nat.lt_irrefl _)
  · rintro i v₁ v₂ ys nx own C oC D m₂ h tk' E' hi ⟨e, he, rfl, rfl⟩ hJ ap hC h1 h2 F' N' hCD hIC hyl
    exact turn s₁.heap.objs.size (fun p hp => Heap.lt_size (N p hp).1) i e ys nx own C oC D m₂ h tk' E' he hJ ap hC h1 h2 F' N' hCD (hIC _ (List.mem_singleton.mpr rfl)) hyl
  · intro D C h tk' m' ys nx F' N' o1 hn hC₀ hD₀ hCL hDL hCD offC hJ
    refine ⟨m', hn, fun h'' hs'' => fin D h'' tk' ys nx (F'.change hs'' hCL hC₀) (fun p hp => ?_) o1 hJ⟩
    refine ⟨hs''.extBut _ _ ?_ (N' p hp).1, (N' p hp).2⟩
    rcases List.mem_cons.mp hp with rfl | hp
    · exact Ne.symm hCD
    · exact offC p hp

/-- the tuple of a key, its parts -/
theorem KeyL.parts {news : List (Addr × Obj)} {a : Addr} {k : Int} (K : KeyL prog w news a k) : ∃ o t n t₂ c, (a, o) ∈ news ∧ o.cls = .type "tuple" ∧ o.data = .seq #[.str kAt t, .int k n, .str kSum t₂] c := by
  obtain ⟨o, hm, hc, items, c, hd, hi⟩ := K
  obtain ⟨l⟩ := items
  have hi' : ItemsAre (partKind prog w) [.s kAt, .i k, .s kSum] l := hi
  cases hi' with
  | cons h1 hi' =>
    cases hi' with
    | cons h2 hi' =>
      cases hi' with
      | cons h3 hi' =>
        cases hi'
        obtain ⟨t, rfl⟩ := Value.isStrOf_shape (show Value.isStrOf kAt _ = true from h1)
        obtain ⟨n, rfl⟩ := Value.isInt_shape (show Value.isInt k _ = true from h2)
        obtain ⟨t₂, rfl⟩ := Value.isStrOf_shape (show Value.isStrOf kSum _ = true from h3)
        exact ⟨o, t, n, t₂, c, hm, hc, hd⟩
theorem KeyL.made {news : List (Addr × Obj)} {a : Addr} {k : Int} {t n t₂ : Tok} (hm : (a, ({ cls := .type "tuple", data := .seq [Value.str kAt t, .int k n, .str kSum t₂].toArray } : Obj)) ∈ news) : KeyL prog w news a k := by
  refine ⟨_, hm, TupKeyObj.made ?_⟩
  refine .cons (show Value.isStrOf kAt (.str kAt t) = true from by simp [Value.isStrOf]) (.cons (show Value.isInt k (.int k n) = true from by simp [Value.isInt]) (.cons (show Value.isStrOf kSum (.str kSum t₂) = true from by simp [Value.isStrOf]) .nil))
/-- word[1] -/
theorem key_item {news : List (Addr × Obj)} {a : Addr} {k : Int} {u : Tok} {value slice : PySem.Expr} {Q : Value → Shared → Prop} (N : News h₀ L s.heap news) (K : KeyL prog w news a k) (h : ∀ t, Q (.int k t) s)
    (hs : subscripted slice false (.ref a) (.int 1 u) = operate [.ref a, .int 1 u] (getItem (.ref a) (.int 1 u)) := by with_unfolding_all rfl) :
    wpAny (model prog w) A (subscriptTail value slice (.ref a) (.int 1 u)) Q E s := by
  obtain ⟨o, t, n, t₂, c, hm, hc, hd⟩ := K.parts
  exact item_tupleT (k := 1) (j := 1) (show IsTup s.heap a #[.str kAt t, .int k n, .str kSum t₂] from ⟨o, N.get hm, hc, c, hd⟩) (by decide) (by decide) (by rfl) (by rfl) (h n) hs
end
end Mine

namespace Mine
open PySem.Calls PyProof.V PySem.Spec PyProof.Rows.LCg

section
variable {prog : Program} {w : World} {A : Around} {E : Value → Shared → Prop} {s : Shared} {h₀ : Heap} {L : Addr} {m : Str → Option Value} {env : Env} {news : List (Addr × Obj)}
/-- a display of one pair -/
theorem dk_dict {kx vx : PySem.Expr} {pos : Pos} {Q : Value → Shared → Prop} (F : Fr h₀ L s.heap m) (N : News h₀ L s.heap news) (hbig : h₀.NoLimit)
    (h : ∀ D oD h', Fr h₀ L h' m → News h₀ L h' ((D, oD) :: news) → (∀ p ∈ news, p.1 < D) → (D == sysModules) = false → TabO prog w [] oD [] [] →
      wpAny (model prog w) A (eval kx env) (fun kv s₁ => wpAny (model prog w) A (eval vx env) (fun vv s₂ => wpAny (model prog w) A (dictSet D kv vv) (fun _ s₃ => Q (.ref D) s₃) E s₂) E s₁) E { s with heap := h' }) :
    wpAny (model prog w) A (eval (.Dict [some kx] [vx] pos) env) Q E s := by
  refine wpAny_Dict_any rfl rfl (by simp) (Nat.le_of_ble_eq_true rfl) ?_
  refine pairTrees_cons_walk (wpAny_mono (h _ _ _ (F.push _) (News.push F N _) (fun p hp => Heap.lt_size (N p hp).1) (F.notModules (modules_low hbig)) TabO.fresh) (fun kv s₁ h₁ => wpAny_mono h₁ (fun vv s₂ h₂ => pairTrees_nil_walk ?_) fun _ _ e => e) fun _ _ e => e)
  unfold storeAll
  rw [List.forIn_cons]
  refine wpAny_bind (wpAny_bind (wpAny_mono h₂ (fun _ s₃ h₃ => wpAny_pure ?_) fun _ _ e => e))
  show wpAny _ _ (forIn ([] : List (Value × Value)) _ _) _ _ _
  rw [List.forIn_nil]
  exact wpAny_pure h₃

/-- its store -/
theorem dk_store {all : List (Addr × Obj)} {d a : Addr} {o : Obj} {g : Obj → List (Addr × Obj)} {k v : Int} {t : Tok} {Q : Unit → Shared → Prop} (hu : A.units < cLine) (F : Fr h₀ L s.heap m) (N : News h₀ L s.heap all) (U : UpdF d o all g)
    (T : TabO prog w [] o [] []) (K : KeyL prog w all a k)
    (h : ∀ h' o' xs, Fr h₀ L h' m → News h₀ L h' (g o') → TabO prog w (g o') o' xs [(k, v)] → Q () { s with heap := h', toks := s.toks + 4 }) :
    wpAny (model prog w) A (dictSet d (.ref a) (.int v t)) Q E s := by
  obtain ⟨pre, post, rfl, hg, ha, hb⟩ := U.split
  have hd := N (d, o) (List.mem_append_right _ (.head _))
  have hsub : ∀ p ∈ pre ++ post, p ∈ pre ++ (d, o) :: post := fun p hp => (List.mem_append.mp hp).elim (fun h => List.mem_append_left _ h) fun h => List.mem_append_right _ (List.mem_cons_of_mem _ h)
  have K' : KeyL prog w (pre ++ post) a k := by
    obtain ⟨ok, hm, tk⟩ := K
    refine ⟨ok, ?_, tk⟩
    rcases List.mem_append.mp hm with hm | hm
    · exact List.mem_append_left _ hm
    · rcases List.mem_cons.mp hm with e | hm
      · exfalso
        cases e
        obtain ⟨_, _, r, _⟩ := T
        have h1 := tk.1
        rw [r.x.1] at h1
        injection h1 with h2
        exact absurd h2 (by decide)
      · exact List.mem_append_right _ hm
  refine tb_dictSet hu (fun p hp => (N p (hsub p hp)).1) hd.1 (T.mono fun p hp => (nomatch hp)) K' (Nat.zero_le _) fun h' o' ho' hs' T' => ?_
  exact h h' o' _ (F.change hs' hd.2.1 hd.2.2) (hg o' ▸ N.setIn ha hb hs' ho') (T'.mono fun p hp => by rw [hg o']; exact (List.mem_append.mp hp).elim (fun h => List.mem_append_left _ h) fun h => List.mem_append_right _ (List.mem_cons_of_mem _ h))
end
end Mine

namespace Mine
open PySem.Calls PyProof.V PySem.Spec PyProof.Rows.LCg

section
variable {prog : Program} {w : World} {A : Around} {E : Value → Shared → Prop} {s : Shared} {h₀ : Heap} {L : Addr} {m : Str → Option Value} {env : Env} {news : List (Addr × Obj)}
/-- a display of two pairs -/
theorem dk_dict2 {kx vx kx₂ vx₂ : PySem.Expr} {pos : Pos} {Q : Value → Shared → Prop} (F : Fr h₀ L s.heap m) (N : News h₀ L s.heap news) (hbig : h₀.NoLimit)
    (h : ∀ D oD h', Fr h₀ L h' m → News h₀ L h' ((D, oD) :: news) → (∀ p ∈ news, p.1 < D) → (D == sysModules) = false → TabO prog w [] oD [] [] →
      wpAny (model prog w) A (eval kx env) (fun kv s₁ => wpAny (model prog w) A (eval vx env) (fun vv s₂ => wpAny (model prog w) A (eval kx₂ env) (fun kv' s₃ => wpAny (model prog w) A (eval vx₂ env) (fun vv' s₄ =>
        wpAny (model prog w) A (dictSet D kv vv) (fun _ s₅ => wpAny (model prog w) A (dictSet D kv' vv') (fun _ s₆ => Q (.ref D) s₆) E s₅) E s₄) E s₃) E s₂) E s₁) E { s with heap := h' }) :
    wpAny (model prog w) A (eval (.Dict [some kx, some kx₂] [vx, vx₂] pos) env) Q E s := by
  refine wpAny_Dict_any rfl rfl (by simp) (Nat.le_of_ble_eq_true rfl) ?_
  refine pairTrees_cons_walk (wpAny_mono (h _ _ _ (F.push _) (News.push F N _) (fun p hp => Heap.lt_size (N p hp).1) (F.notModules (modules_low hbig)) TabO.fresh) (fun kv s₁ h₁ => wpAny_mono h₁ (fun vv s₂ h₂ =>
    pairTrees_cons_walk (wpAny_mono h₂ (fun kv' s₃ h₃ => wpAny_mono h₃ (fun vv' s₄ h₄ => pairTrees_nil_walk ?_) fun _ _ e => e) fun _ _ e => e)) fun _ _ e => e) fun _ _ e => e)
  unfold storeAll
  rw [List.forIn_cons]
  refine wpAny_bind (wpAny_bind (wpAny_mono h₄ (fun _ s₅ h₅ => wpAny_pure ?_) fun _ _ e => e))
  show wpAny _ _ (forIn [(kv', vv')] _ _) _ _ _
  rw [List.forIn_cons]
  refine wpAny_bind (wpAny_bind (wpAny_mono h₅ (fun _ s₆ h₆ => wpAny_pure ?_) fun _ _ e => e))
  show wpAny _ _ (forIn ([] : List (Value × Value)) _ _) _ _ _
  rw [List.forIn_nil]
  exact wpAny_pure h₆

theorem KeyL.drop {pre post : List (Addr × Obj)} {d : Addr} {o : Obj} {es : Array DictEntry} {ep : Nat} {a : Addr} {k : Int} (K : KeyL prog w (pre ++ (d, o) :: post) a k) (r : RawD o es ep) : KeyL prog w (pre ++ post) a k := by
  obtain ⟨ok, hm, tk⟩ := K
  refine ⟨ok, ?_, tk⟩
  rcases List.mem_append.mp hm with hm | hm
  · exact List.mem_append_left _ hm
  · rcases List.mem_cons.mp hm with e | hm
    · exfalso
      cases e
      have h1 := tk.1
      rw [r.x.1] at h1
      injection h1 with h2
      exact absurd h2 (by decide)
    · exact List.mem_append_right _ hm

/-- a display's store, any -/
theorem dk_storeG {all : List (Addr × Obj)} {d a : Addr} {o : Obj} {xs : List (Int × Addr × Value)} {kvs : List (Int × Int)} {g : Obj → List (Addr × Obj)} {k v : Int} {t : Tok} {Q : Unit → Shared → Prop} (hu : A.units < cLine) (F : Fr h₀ L s.heap m) (N : News h₀ L s.heap all) (U : UpdF d o all g)
    (hs : ∀ p ∈ news, p ∈ all) (T : TabO prog w news o xs kvs) (K : KeyL prog w all a k) (hsz : kvs.length ≤ sizeLine)
    (h : ∀ h' o' xs', Fr h₀ L h' m → News h₀ L h' (g o') → TabO prog w (g o') o' xs' (putT kvs k v) → Q () { s with heap := h', toks := s.toks + 4 }) :
    wpAny (model prog w) A (dictSet d (.ref a) (.int v t)) Q E s := by
  obtain ⟨pre, post, rfl, hg, ha, hb⟩ := U.split
  have hd := N (d, o) (List.mem_append_right _ (.head _))
  have hsub : ∀ p ∈ pre ++ post, p ∈ pre ++ (d, o) :: post := fun p hp => (List.mem_append.mp hp).elim (fun h => List.mem_append_left _ h) fun h => List.mem_append_right _ (List.mem_cons_of_mem _ h)
  obtain ⟨es, ep, r, e, n, hk, hv⟩ := T
  have T₂ : TabO prog w (pre ++ post) o xs kvs := ⟨es, ep, r, e, n, fun x hx => KeyL.drop (KeyL.mono (hk x hx) hs) r, hv⟩
  refine tb_dictSet hu (fun p hp => (N p (hsub p hp)).1) hd.1 T₂ (K.drop r) hsz fun h' o' ho' hs' T' => ?_
  exact h h' o' _ (F.change hs' hd.2.1 hd.2.2) (hg o' ▸ N.setIn ha hb hs' ho') (T'.mono fun p hp => by rw [hg o']; exact (List.mem_append.mp hp).elim (fun h => List.mem_append_left _ h) fun h => List.mem_append_right _ (List.mem_cons_of_mem _ h))
theorem tb_getI {news' : List (Addr × Obj)} {d a : Addr} {o : Obj} {xs : List (Int × Addr × Value)} {kvs : List (Int × Int)} {k dv : Int} {dt : Tok} {Q : Value → Shared → Prop} (hu : A.units + 1 < cLine) (N : News h₀ L s.heap news') (hd : (d, o) ∈ news') (hs : ∀ p ∈ news, p ∈ news') (lo : (d == sysModules) = false) (T : TabO prog w news o xs kvs) (K : KeyL prog w news' a k)
    (h : ∀ t, Q (.int ((getT kvs k).getD dv) t) { s with toks := s.toks + 4 }) : wpAny (model prog w) A (call (.builtin "dict.get") [.ref d, .ref a, .int dv dt]) Q E s :=
  tb_get hu N hd lo (T.mono hs) K h
noncomputable def ListL (news : List (Addr × Obj)) (l : Addr) (ns : List Int) : Prop := ∃ vs c, (l, W.listOf vs.toArray c) ∈ news ∧ IntsAre vs ns
theorem ListL.mono {news' : List (Addr × Obj)} {l : Addr} {ns : List Int} (h : ListL news l ns) (hs : ∀ p ∈ news, p ∈ news') : ListL news' l ns := let ⟨vs, c, a, b⟩ := h; ⟨vs, c, hs _ a, b⟩
end

section
variable {prog : Program} {w : World} {A : Around} {E : Value → Shared → Prop} {s : Shared} {env : Env} {h₀ : Heap} {x : Str} {body : List Stmt} {Q : Flow → Shared → Prop}
/-- a range's loop by an invariant -/
theorem rest_range {I : Addr} {a : Int} {n : Nat} (J : Nat → (Str → Option Value) → List (Addr × Obj) → Prop)
    (turn : ∀ i m nx t h tk, i < n → J i m nx → (∀ p ∈ nx, p.1 ≠ I) → Fr h₀ env.locals h (fun y => if y = x then some (.int (a + (i : Int)) t) else m y) → News h₀ env.locals h ((I, itR (a + ((i + 1 : Nat) : Int)) ((n : Int) - ((i + 1 : Nat) : Int))) :: nx) →
      wpAny (model prog w) A (execs body env) (UnrPost h₀ env.locals { s with heap := h, toks := tk } I (itR (a + ((i + 1 : Nat) : Int)) ((n : Int) - ((i + 1 : Nat) : Int))) (J (i + 1)) Q) E { s with heap := h, toks := tk })
    (done : ∀ m nx h tk, J n m nx → (∀ p ∈ nx, p.1 ≠ I) → Fr h₀ env.locals h m → News h₀ env.locals h nx → Q .next { s with heap := h, toks := tk }) :
    ∀ (k i : Nat) (m : Str → Option Value) (nx : List (Addr × Obj)), k + i = n → J i m nx → (∀ p ∈ nx, p.1 ≠ I) → RangeRest prog w A E h₀ env x body Q s I a n k i m nx := by
  intro k
  induction k with
  | zero =>
    intro i m nx e hJ off
    have e' : i = n := by omega
    subst e'
    exact RangeRest.zero fun h tk F N => done m nx h tk hJ off F N
  | succ k ih =>
    intro i m nx e hJ off
    refine RangeRest.succ fun t h tk F N => ?_
    refine wpAny_mono (turn i m nx t h tk (by omega) hJ off F N) (fun f s₂ p => ?_) fun _ _ e => e
    have fin : UnrEnd h₀ env.locals { s with heap := h, toks := tk } I (itR (a + ((i + 1 : Nat) : Int)) ((n : Int) - ((i + 1 : Nat) : Int))) (J (i + 1)) s₂ →
        UnrEnd h₀ env.locals { s with heap := h, toks := tk } I (itR (a + ((i + 1 : Nat) : Int)) ((n : Int) - ((i + 1 : Nat) : Int))) (RangeRest prog w A E h₀ env x body Q s I a n k (i + 1)) s₂ := by
      rintro ⟨h', tk', m', nx', e', F', N', off', r⟩
      exact ⟨h', tk', m', nx', e', F', N', off', ih (i + 1) m' nx' (by omega) r off'⟩
    cases f with
    | ret v => exact p
    | brk => exact p
    | next => exact fin p
    | cont => exact fin p
end
end Mine

namespace Mine
open PySem.Calls PyProof.V PySem.Spec PyProof.Rows.LCg

noncomputable def rangeItems (a : Int) (n : Nat) : List Itm := (List.range n).map fun (i : Nat) => Itm.tok (fun t => .int (a + (i : Int)) t)
theorem rangeItems_drop {a : Int} {n i : Nat} (h : i < n) : (rangeItems a n).drop i = Itm.tok (fun t => .int (a + (i : Int)) t) :: (rangeItems a n).drop (i + 1) := by
  rw [List.drop_eq_getElem_cons (by simpa [rangeItems] using h)]
  congr 1
  simp [rangeItems]
theorem rangeItems_done {a : Int} {n : Nat} : (rangeItems a n).drop n = [] := List.drop_eq_nil_of_le (by simp [rangeItems])

section
variable {prog : Program} {w : World} {A : Around} {E : Value → Shared → Prop} {s : Shared} {env : Env} {h₀ : Heap} {body : List Stmt} {Q : Flow → Shared → Prop} {m₀ : Str → Option Value} {news : List (Addr × Obj)}

theorem rd_forRange {x : Str} {px : Pos} {r : Addr} {a b : Int} {t u v : Tok} {n : Nat} (hh : A.handled = none) (F : Fr h₀ env.locals s.heap m₀) (N : News h₀ env.locals s.heap news)
    (hr : IsRange s.heap r a b 1 t u v) (hsmall : Builtin.Range.small a b 1 = true) (hn : Builtin.Range.rangeSize a b 1 = (n : Int))
    (rest₀ : ∀ I : Addr, (∀ p ∈ news, p.1 < I) → ItemsRest prog w A E h₀ env (.Name x px) body Q s [(I, "range_iterator")] [] (rangeItems a n) m₀ news) :
    wpAny (model prog w) A (pyIter (.ref r)) (fun it s₂ => TurnsAt prog w A h₀ env (.Name x px) body Q E it s₂) E s := by
  refine wpAny_pyIter_range hr hsmall ?_
  have W : Walks prog w A s.heap.objs.size [s.heap.objs.size] [s.heap.objs.size] n (fun i v => i < n ∧ ∃ t, v = .int (a + i * 1) t)
      (fun i h => IsRangeIter h s.heap.objs.size (a + (i : Nat) * 1) ((n : Int) - (i : Nat)) 1) := (Walks.range hh _ a 1 n).bound
  refine ktu_core (tk0 := s.toks) (keep := []) (KTurns.ofWalks W fun i v s Q E st q => wpAny_pure q) (by simp [rangeItems]) ?_ ?_ ?_ ?_ ?_ ?_ ?_ ?_ (F.push _) (fun p hp => ⟨Heap.get?_push_of_some _ (N p hp).1, (N p hp).2⟩) trivial (rest₀ _ fun p hp => Heap.lt_size (N p hp).1)
  · rintro i v h ⟨hi, t, rfl⟩
    refine ⟨Itm.tok (fun t => .int (a + (i : Int)) t), by simp [rangeItems, hi], t, ?_⟩
    rw [Int.mul_one]
  · intro i h st
    have st' : h.get? s.heap.objs.size = some _ := st
    exact ⟨[(s.heap.objs.size, _)], ⟨⟨rfl, rfl⟩, trivial⟩, fun p hp => by rw [List.mem_singleton.mp hp]; exact st'⟩
  · intro b hb
    have hb' : b = s.heap.objs.size := by simpa using hb
    rw [hb']
    exact ⟨List.mem_cons_self .., next_is_new F⟩
  · intro b hb
    simpa using hb
  · intro b hb
    have hb' : b = s.heap.objs.size := by simpa using hb
    exact .inl (by simp [hb'])
  · intro hI
    have hb' : env.locals = s.heap.objs.size := by simpa using hI
    exact absurd F.ns.lt (hb' ▸ Nat.lt_irrefl _)
  · intro p hp hI
    exact absurd (Heap.lt_size (N p hp).1) ((List.mem_singleton.mp hI) ▸ Nat.lt_irrefl _)
  · show IsRangeIter _ _ _ _ _
    rw [hn]; simpa using Heap.get?_push_size _ rfl

theorem rest_items0 {target : PySem.Expr} {wn : String} {I : Addr} (J : List Itm → (Str → Option Value) → List (Addr × Obj) → Prop)
    (turn : ∀ e r m nx v h tk oI, J (e :: r) m nx → (∀ p ∈ nx, p.1 ≠ I) → oI.cls = .type wn → e.Is v h → Fr h₀ env.locals h m → News h₀ env.locals h ((I, oI) :: nx) →
      wpAny (model prog w) A (assign target env v) (fun _ s₂ => wpAny (model prog w) A (execs body env) (ItEnd h₀ env.locals I oI (J r) { s with heap := h, toks := tk }) E s₂) E { s with heap := h, toks := tk })
    (done : ∀ m nx h tk, J [] m nx → (∀ p ∈ nx, p.1 ≠ I) → Fr h₀ env.locals h m → News h₀ env.locals h nx → Q .next { s with heap := h, toks := tk }) :
    ∀ (r : List Itm) (m : Str → Option Value) (nx : List (Addr × Obj)), J r m nx → (∀ p ∈ nx, p.1 ≠ I) →
      ItemsRest prog w A E h₀ env target body Q s [(I, wn)] [] r m nx := by
  intro r
  induction r with
  | nil => exact fun m nx hJ off h tk F N => done m nx h tk hJ off F N
  | cons e r ih =>
    intro m nx hJ off v h tk hv F
    refine AllObj.cons fun oI hc => AllObj.nil fun N => ?_
    refine wpAny_mono (turn e r m nx v h tk oI hJ off hc hv F N) (fun _ s₂ h₂ => wpAny_mono h₂ (fun f s₃ h₃ => ?_) fun _ _ e => e) fun _ _ e => e
    obtain ⟨rfl, h', tk', m', nx', e', F', N', off', hJ'⟩ := h₃
    refine ⟨h', tk', m', nx', e', F', N', fun p hp q hq => ?_, trivial, ih m' nx' hJ' off'⟩
    rw [List.mem_singleton.mp hq]
    exact off' p hp
end

section
variable {prog : Program} {w : World} {A : Around} {E : Value → Shared → Prop} {s : Shared} {h₀ : Heap} {L : Addr} {news : List (Addr × Obj)}
/-- an item of a made list of ints -/
theorem lst_item {value slice : PySem.Expr} {l : Addr} {vs : List Value} {c : Nat} {ns : List Int} {i : Int} {u : Tok} {Q : Value → Shared → Prop} (N : News h₀ L s.heap news) (hm : (l, W.listOf vs.toArray c) ∈ news) (hi : IntsAre vs ns) (h0 : 0 ≤ i) (h1 : i < (ns.length : Int)) (hfit : i < 2 ^ 63)
    (h : ∀ t, Q (.int (ns.getD i.toNat 0) t) s)
    (hs : subscripted slice false (.ref l) (.int i u) = operate [.ref l, .int i u] (getItem (.ref l) (.int i u)) := by with_unfolding_all rfl) (hg : ∀ r, letTemporaryGo value (.ref l) r = pure () := by intro _; with_unfolding_all rfl) :
    wpAny (model prog w) A (subscriptTail value slice (.ref l) (.int i u)) Q E s := by
  have hk : i.toNat < ns.length := by omega
  obtain ⟨t, hx⟩ := hi.get i.toNat (ns.getD i.toNat 0) (by rw [List.getD_eq_getElem?_getD, List.getElem?_eq_getElem hk]; rfl)
  exact item_listL ⟨W.listOf vs.toArray c, (N _ hm).1, rfl, _, rfl⟩ h0 hfit hx (h t) hs hg
theorem lst_len {l : Addr} {vs : List Value} {c : Nat} {ns : List Int} {Q : Value → Shared → Prop} (N : News h₀ L s.heap news) (hm : (l, W.listOf vs.toArray c) ∈ news) (hi : IntsAre vs ns) (hz : ns.length < 1000)
    (h : Q (.int (ns.length : Int) (s.toks + 1)) { s with toks := s.toks + 1 + 1 }) : wpAny (model prog w) A (call (.builtin "len") [.ref l]) Q E s := by
  have hl : s.heap.IsList l vs.toArray := ⟨_, (N _ hm).1, rfl, _, rfl⟩
  have e : vs.toArray.size = ns.length := by rw [List.size_toArray, hi.length]
  exact len_list hl (by rw [e]; omega) (by rw [e]; exact h)
theorem lst_sum {m : Str → Option Value} {l : Addr} {vs : List Value} {c : Nat} {ns : List Int} {Q : Value → Shared → Prop} (F : Fr h₀ L s.heap m) (N : News h₀ L s.heap news) (hh : A.handled = none) (hm : (l, W.listOf vs.toArray c) ∈ news) (hi : IntsAre vs ns)
    (h : ∀ h' tk t', Fr h₀ L h' m → News h₀ L h' news → Q (.int ns.sum t') { s with heap := h', toks := tk }) : wpAny (model prog w) A (call (.builtin "sum") [.ref l]) Q E s :=
  PyProof.Rows.LSm.sum_ints F N hh ⟨_, (N _ hm).1, rfl, _, rfl⟩ hi h
end
end Mine

namespace Mine
open PySem.Calls PyProof.V PySem.Spec PyProof.Rows.LCg
theorem unr_tail {h₀ : Heap} {L I : Addr} {it : Obj} {rest : (Str → Option Value) → List (Addr × Obj) → Prop} {s₁ : Shared} {h' : Heap} {tk : Nat} {m' : Str → Option Value} {news' : List (Addr × Obj)} (F : Fr h₀ L h' m') (N : News h₀ L h' ((I, it) :: news'))
    (off : ∀ p ∈ news', p.1 ≠ I) (r : rest m' news') : UnrEnd h₀ L s₁ I it rest { s₁ with heap := h', toks := tk } := ⟨h', tk, m', news', rfl, F, N, off, r⟩
section
variable {prog : Program} {w : World} {A : Around} {E : Value → Shared → Prop} {s : Shared} {env : Env} {h₀ : Heap} {x : Str} {body : List Stmt} {Q : Flow → Shared → Prop}
theorem rest_krs {I : Addr} {a c : Int} {n : Nat} (J : Nat → (Str → Option Value) → List (Addr × Obj) → Prop)
    (turn : ∀ i m nx t h tk, i < n → J i m nx → (∀ p ∈ nx, p.1 ≠ I) → Fr h₀ env.locals h (fun y => if y = x then some (.int (a + (i : Int) * c) t) else m y) → News h₀ env.locals h ((I, krsIt (a + ((i + 1 : Nat) : Int) * c) ((n : Int) - ((i + 1 : Nat) : Int)) c) :: nx) →
      wpAny (model prog w) A (execs body env) (UnrPost h₀ env.locals { s with heap := h, toks := tk } I (krsIt (a + ((i + 1 : Nat) : Int) * c) ((n : Int) - ((i + 1 : Nat) : Int)) c) (J (i + 1)) Q) E { s with heap := h, toks := tk })
    (done : ∀ m nx h tk, J n m nx → (∀ p ∈ nx, p.1 ≠ I) → Fr h₀ env.locals h m → News h₀ env.locals h nx → Q .next { s with heap := h, toks := tk }) :
    ∀ (k i : Nat) (m : Str → Option Value) (nx : List (Addr × Obj)), k + i = n → J i m nx → (∀ p ∈ nx, p.1 ≠ I) → KrsRest prog w A E h₀ env x body Q s I a c n k i m nx := by
  intro k
  induction k with
  | zero =>
    intro i m nx e hJ off
    have e' : i = n := by omega
    subst e'
    exact KrsRest.zero fun h tk F N => done m nx h tk hJ off F N
  | succ k ih =>
    intro i m nx e hJ off
    refine KrsRest.succ rfl fun t h tk F N => ?_
    refine wpAny_mono (turn i m nx t h tk (by omega) hJ off F N) (fun f s₂ p => ?_) fun _ _ e => e
    have fin : UnrEnd h₀ env.locals { s with heap := h, toks := tk } I (krsIt (a + ((i + 1 : Nat) : Int) * c) ((n : Int) - ((i + 1 : Nat) : Int)) c) (J (i + 1)) s₂ →
        UnrEnd h₀ env.locals { s with heap := h, toks := tk } I (krsIt (a + ((i + 1 : Nat) : Int) * c) ((n : Int) - ((i + 1 : Nat) : Int)) c) (KrsRest prog w A E h₀ env x body Q s I a c n k (i + 1)) s₂ := by
      rintro ⟨h', tk', m', nx', e', F', N', off', r⟩
      exact ⟨h', tk', m', nx', e', F', N', off', ih (i + 1) m' nx' (by omega) r off'⟩
    cases f with
    | ret v => exact p
    | brk => exact p
    | next => exact fin p
    | cont => exact fin p
end
end Mine

namespace Mine
open PySem.Calls PyProof.V PySem.Spec PyProof.Rows.LCg
structure NowHold : Prop where
theorem TabL.dropCell {prog : Program} {w : World} {news news' : List (Addr × Obj)} {d I : Addr} {oI : Obj} {kvs : List (Int × Int)} {x : Option Value} (T : TabL prog w news d kvs) (hc : oI.data = .cell x)
    (hs : ∀ p ∈ news, p ∈ news' ∨ p = (I, oI)) : TabL prog w news' d kvs := by
  obtain ⟨lo, o, xs, hm, es, ep, r, e, n, hk, hv⟩ := T
  refine ⟨lo, o, xs, ?_, es, ep, r, e, n, fun x hx => ?_, hv⟩
  · rcases hs _ hm with h | h
    · exact h
    · cases h
      have q := r.d
      rw [hc] at q
      cases q
  · obtain ⟨ok, hmk, t⟩ := hk x hx
    rcases hs _ hmk with h | h
    · exact ⟨ok, h, t⟩
    · cases h
      obtain ⟨_, items, c, hd, _⟩ := t
      rw [hc] at hd
      cases hd
theorem ListL.dropCell {news news' : List (Addr × Obj)} {l I : Addr} {oI : Obj} {ns : List Int} {x : Option Value} (T : ListL news l ns) (hc : oI.data = .cell x)
    (hs : ∀ p ∈ news, p ∈ news' ∨ p = (I, oI)) : ListL news' l ns := by
  obtain ⟨vs, c, hm, hv⟩ := T
  rcases hs _ hm with h | h
  · exact ⟨vs, c, h, hv⟩
  · cases h
    cases hc
theorem regroup {h₀ h : Heap} {L : Addr} {tl nw : List (Addr × Obj)} {c : Addr × Obj} (N : News h₀ L h (tl ++ c :: nw)) (o : ∀ p ∈ tl, p.1 ≠ c.1) (oc : ∀ p ∈ nw, p.1 ≠ c.1) :
    ∃ nw', News h₀ L h (c :: nw') ∧ (∀ p ∈ nw', p.1 ≠ c.1) ∧ (∀ p ∈ tl ++ c :: nw, p ∈ c :: nw') ∧ (∀ p ∈ c :: nw, p ∈ c :: nw') := by
  refine ⟨tl ++ nw, fun p hp => N p ?_, fun p hp => ?_, fun p hp => ?_, fun p hp => ?_⟩
  · simp only [List.mem_cons, List.mem_append] at hp ⊢; grind
  · rcases List.mem_append.mp hp with hp | hp
    · exact o p hp
    · exact oc p hp
  · simp only [List.mem_cons, List.mem_append] at hp ⊢; grind
  · simp only [List.mem_cons, List.mem_append] at hp ⊢; grind
end Mine

namespace Mine
open PySem.Calls PyProof.V PySem.Spec PyProof.Rows.LCg
theorem valsAre_mem {xs : List (Int × Addr × Value)} {kvs : List (Int × Int)} (h : ValsAre xs kvs) {k : Int} {ad : Addr} {v : Value} (hm : (k, ad, v) ∈ xs) : ∃ u t, v = .int u t ∧ (k, u) ∈ kvs := by
  induction h with
  | nil => cases hm
  | @cons n a' vv t xs kvs _ ih =>
    rcases List.mem_cons.mp hm with e | hm
    · cases e; exact ⟨vv, t, rfl, List.mem_cons_self⟩
    · obtain ⟨u, t, e, hm⟩ := ih hm
      exact ⟨u, t, e, List.mem_cons_of_mem _ hm⟩
section
variable {prog : Program} {w : World} {A : Around} {E : Value → Shared → Prop} {s : Shared}
/-- two tables, pair by pair the same -/
theorem sameH {nm : String} {a b : Addr} {oa ob : Obj} {ka kb : List (Int × Addr × Value)} {va vb : List (Int × Int)} {esa esb : Array DictEntry} {epa epb : Nat} {Q : Bool → Shared → Prop} (ha : (a == sysModules) = false) (hb : (b == sysModules) = false) (hu : A.units < cLine)
    (hoa : s.heap.get? a = some oa) (hob : s.heap.get? b = some ob) (ra : RawD oa esa epa) (rb : RawD ob esb epb)
    (hea : esa.toList = ka.map (entryOfKey (atKind prog w))) (heb : esb.toList = kb.map (entryOfKey (atKind prog w)))
    (isa : ∀ x ∈ ka, (atKind prog w).is s.heap x.1 x.2.1) (isb : ∀ x ∈ kb, (atKind prog w).is s.heap x.1 x.2.1) (nb : (kb.map (·.1)).Nodup)
    (hva : ValsAre ka va) (hvb : ValsAre kb vb) (hl : va.length = vb.length) (hall : ∀ p ∈ va, getT vb p.1 = some p.2) (h : Q true s) :
    wpAny (model prog w) A (Builtin.Dict.samePairs nm a b) Q E s := by
  have hda := ra.d
  have hdb := rb.d
  have hla : ka.length = esa.size := by rw [← Array.length_toList, hea, List.length_map]
  have hlb : kb.length = esb.size := by rw [← Array.length_toList, heb, List.length_map]
  have hsz : esa.size = esb.size := by rw [← hla, ← hlb, hva.length, hvb.length, hl]
  unfold Builtin.Dict.samePairs Builtin.Dict.showsAll
  rw [if_neg (show ¬ (a == sysModules) = true by rw [ha]; exact Bool.false_ne_true), if_neg (show ¬ (b == sysModules) = true by rw [hb]; exact Bool.false_ne_true)]
  refine wpAny_bind (wpAny_pure (wpAny_bind (wpAny_pure ?_)))
  refine wpAny_bind (wpAny_dictEntries hoa hda ?_)
  dsimp only
  refine wpAny_bind (wpAny_dictEntries hob hdb ?_)
  rw [if_neg (by rw [hsz]; simp)]
  refine wpAny_bind (wpAny_dictEpoch hoa hda ?_)
  refine wpAny_bind ?_
  rw [Std.Legacy.Range.forIn_eq_forIn_range']
  simp only [Std.Legacy.Range.size, Nat.sub_zero, Nat.add_sub_cancel, Nat.div_one]
  refine wpAny_forIn_list _
    (fun rest q s' => s' = s ∧ q = (none, ()) ∧ ∃ i, rest = List.range' i (esa.size - i) ∧ i ≤ esa.size)
    _ ?_ ?_ _ _ ⟨rfl, rfl, 0, by simp, Nat.zero_le _⟩
  · rintro x rest q s' ⟨rfl, rfl, i, hr, hi⟩
    have hlt : i < esa.size := by
      rcases Nat.lt_or_ge i esa.size with h | h
      · exact h
      · rw [Nat.sub_eq_zero_of_le h] at hr; simp at hr
    obtain ⟨rfl, hrest⟩ : x = i ∧ rest = List.range' (i + 1) (esa.size - (i + 1)) := by
      have e : esa.size - i = (esa.size - (i + 1)) + 1 := by omega
      rw [e, List.range'_succ] at hr
      injection hr with h1 h2
      exact ⟨h1, h2⟩
    refine wpAny_bind (wpAny_dictEntries hoa hda ?_)
    have hlt' : x < ka.length := by rw [hla]; exact hlt
    obtain ⟨⟨k, ad, v⟩, hkv⟩ : ∃ y, ka[x]? = some y := ⟨ka[x], List.getElem?_eq_getElem hlt'⟩
    have hkm : (k, ad, v) ∈ ka := List.mem_of_getElem? hkv
    rw [entry_at hea x, hkv]
    obtain ⟨u, t, hv, hu'⟩ := valsAre_mem hva hkm
    subst hv
    show wpAny _ _ (holding [Value.ref ad, .int u t] _ >>= _) _ _ _
    refine wpAny_bind (wpAny_holding (wpAny_bind (wpAny_dictFind_heap (knd := atKind prog w) (k := k) hu (isa _ hkm) hob hdb heb isb nb ?_ ?_)))
    · intro hno
      exfalso
      have e1 : atKey kb k = none := atKey_none_of_get hno
      have e2 := hall _ hu'
      rcases hvb.at k with ⟨_, e3⟩ | ⟨_, _, _, e3, _⟩
      · rw [e3] at e2; cases e2
      · rw [e1] at e3; cases e3
    · intro j p hj
      have e1 : atKey kb k = some p := atKey_of_get nb hj
      have e2 := hall _ hu'
      obtain ⟨b', u', t', e3, e4⟩ : ∃ b' u' t', atKey kb k = some (b', .int u' t') ∧ getT vb k = some u' := by
        rcases hvb.at k with ⟨e3, _⟩ | ⟨_, _, _, e3, e4⟩
        · rw [e1] at e3; cases e3
        · exact ⟨_, _, _, e3, e4⟩
      rw [e4] at e2
      cases e2
      rw [e1] at e3
      cases e3
      refine wpAny_bind (wpAny_dictEntries hob hdb ?_)
      rw [entry_at heb j, hj]
      show wpAny _ _ (holding [Value.int u t'] (eqBool (Value.int u t) (Value.int u t'))) _ _ _
      refine wpAny_holding (wpAny_eqBool_int ?_)
      rw [beq_self_eq_true]
      show wpAny _ _ (if (!true) = true then _ else _) _ _ _
      rw [if_neg (by decide)]
      refine wpAny_bind (wpAny_dictEpoch hoa hda ?_)
      rw [if_neg (by simp)]
      exact wpAny_pure ⟨rfl, rfl, x + 1, hrest, hlt⟩
  · rintro q s' ⟨rfl, rfl, i, hr, hi⟩
    exact wpAny_pure h

theorem tb_ne {h₀ : Heap} {L : Addr} {news : List (Addr × Obj)} {a b : Addr} {va vb : List (Int × Int)} {Q : Value → Shared → Prop} (hu : A.units + 1 < cLine) (N : News h₀ L s.heap news) (Ta : TabL prog w news a va) (Tb : TabL prog w news b vb)
    (hl : va.length = vb.length) (hall : ∀ p ∈ va, getT vb p.1 = some p.2) (h : Q (.bool false) s) : wpAny (model prog w) A (compareOp .NotEq (.ref a) (.ref b)) Q E s := by
  obtain ⟨la, oa, xa, hma, Ta⟩ := Ta
  obtain ⟨lb, ob, xb, hmb, Tb⟩ := Tb
  have da := Ta.dict N (N.get hma)
  have db := Tb.dict N (N.get hmb)
  have ka : ∀ x ∈ xa, (atKind prog w).is s.heap x.1 x.2.1 := fun x hx => (Ta.key hx).is N
  have kb : ∀ x ∈ xb, (atKind prog w).is s.heap x.1 x.2.1 := fun x hx => (Tb.key hx).is N
  obtain ⟨esa, epa, ra, ea, _, _, va'⟩ := Ta
  obtain ⟨esb, epb, rb, eb, nb, _, vb'⟩ := Tb
  refine wpAny_richCompare_same_room (op := .NotEq) da.typeIs db.typeIs PySem.F.slot_dict_ne (wpAny_call_entry PySem.F.slot_dict_ne da.typeIs PySem.F.entry_dict_ne ?_ (PySem.F.args_dict_ne_2 _ _)) (Nat.lt_of_succ_lt hu)
  show wpAny _ _ (Builtin.Dict.dictSlotArgs "__ne__" ⟨[.ref a, .ref b], []⟩ >>= _) _ _ s
  refine wpAny_bind ?_
  unfold Builtin.Dict.dictSlotArgs
  refine wpAny_bind (wpAny_notOrdered_dict da.typeIs ?_)
  show wpAny _ _ (pure (Value.ref a, Value.ref b)) _ _ s
  refine wpAny_pure ?_
  refine wpAny_bind (wpAny_isInstance (T := "dict") db.typeIs PySem.F.sub_dict_dict ?_)
  simp only [Bool.not_true, Bool.false_eq_true, if_false]
  refine wpAny_bind (wpAny_pure (wpAny_bind (wpAny_pure ?_)))
  refine wpAny_bind (sameH la lb (by exact hu) (N.get hma) (N.get hmb) ra rb ea eb ka kb nb va' vb' hl hall ?_)
  refine wpAny_pure ⟨_, rfl, ?_, ?_⟩
  · exact fun x => nomatch x
  · simpa using h
end
end Mine

namespace Mine
open PySem.Calls PyProof.V PySem.Spec PyProof.Rows.LCg
/-- a comprehension by an invariant over its list and the ledger -/
theorem comp_rest {prog : Program} {w : World} {A : Around} {h₀ : Heap} {L : Addr} {m : Str → Option Value} {env : Env} {elt : PySem.Expr} {x : Str} {scope : Scope} {cl : List (Str × Addr)} {s : Shared} {S : List (Addr × Obj) → Prop} {P : Nat → Value → Prop}
    {Fin : List Value → List (Addr × Obj) → Prop} {news : List (Addr × Obj)} {n : Nat} (J : Nat → List Value → List (Addr × Obj) → Prop)
    (turn : ∀ i v ys nx I oI C oC D m₂ h tk (E' : Value → Shared → Prop), i < n → P i v → J i ys nx → NsObj oC m₂ → m₂ x = some v → Fr h₀ L h m → News h₀ L h ((I, oI) :: (C, oC) :: (D, lst ys) :: nx) → Off3 I C D nx → ((@Ne Nat I C) ∧ (@Ne Nat I D) ∧ (@Ne Nat C D)) →
      wpAny (model prog w) A (eval elt (compEnvC scope cl C env)) (CompEnd h₀ L m { s with heap := h, toks := tk } I oI C oC D (lst ys) S (fun y nx' => J (i + 1) (ys ++ [y]) nx')) E' { s with heap := h, toks := tk })
    (fin : ∀ ys nx, J n ys nx → Fin ys nx) (h0 : J 0 [] news) : CompRest prog w A h₀ L m env elt x scope cl s S P Fin n 0 [] news := by
  have key : ∀ (j i : Nat) (ys : List Value) (nx : List (Addr × Obj)), i + j = n → J i ys nx → CompRest prog w A h₀ L m env elt x scope cl s S P Fin j i ys nx := by
    intro j
    induction j with
    | zero =>
      intro i ys nx hi hJ
      have e : i = n := by omega
      subst e
      exact CompRest.zero (fin ys nx hJ)
    | succ j ih =>
      intro i ys nx hi hJ
      refine CompRest.succ ?_
      intro v I oI C oC D m₂ h tk E' hv hC hx F N off ne
      refine wpAny_mono (turn i v ys nx I oI C oC D m₂ h tk E' (by omega) hv hJ hC hx F N off ne) (fun y s₂ hq => ?_) fun _ _ e => e
      obtain ⟨h', tk', nw, e, F', N', off', hS, hJ'⟩ := hq
      exact ⟨h', tk', nw, e, F', N', off', hS, ih (i + 1) _ _ (by omega) hJ'⟩
  exact key n 0 [] news (by omega) h0

/-- values are ints -/
inductive IVals : List (Int × Value) → List (Int × Int) → Prop
  | nil : IVals [] []
  | cons {k v : Int} {t : Tok} {xs : List (Int × Value)} {kvs : List (Int × Int)} : IVals xs kvs → IVals ((k, .int v t) :: xs) ((k, v) :: kvs)
theorem IVals.length {xs : List (Int × Value)} {kvs : List (Int × Int)} (h : IVals xs kvs) : xs.length = kvs.length := by
  induction h with
  | nil => rfl
  | cons _ ih => simp [ih]
theorem IVals.keys {xs : List (Int × Value)} {kvs : List (Int × Int)} (h : IVals xs kvs) : xs.map (·.1) = kvs.map (·.1) := by
  induction h with
  | nil => rfl
  | cons _ ih => simp [ih]
theorem IVals.append {xs ys : List (Int × Value)} {kvs lvs : List (Int × Int)} (h : IVals xs kvs) (k : IVals ys lvs) : IVals (xs ++ ys) (kvs ++ lvs) := by
  induction h with
  | nil => exact k
  | cons _ ih => exact .cons ih
theorem IVals.at {xs : List (Int × Value)} {kvs : List (Int × Int)} (h : IVals xs kvs) (k : Int) :
    (valueAt xs k = none ∧ getT kvs k = none) ∨ ∃ v t, valueAt xs k = some (.int v t) ∧ getT kvs k = some v := by
  induction h with
  | nil => exact .inl ⟨rfl, rfl⟩
  | @cons k' v t xs kvs _ ih =>
    by_cases e : k' = k
    · exact .inr ⟨v, t, by simp [valueAt, e], by simp [getT, e]⟩
    · simpa [valueAt, getT, List.find?_cons, e] using ih

section
variable (prog : Program) (w : World)
noncomputable def ITabL (news : List (Addr × Obj)) (d : Addr) (kvs : List (Int × Int)) : Prop := (d == sysModules) = false ∧ ∃ o xs, (d, o) ∈ news ∧ o.IsDictOf (intKind prog w) xs ∧ IVals xs kvs
end
theorem ITabL.mono {prog : Program} {w : World} {news news' : List (Addr × Obj)} {d : Addr} {kvs : List (Int × Int)} (T : ITabL prog w news d kvs) (hs : ∀ p ∈ news, p ∈ news') : ITabL prog w news' d kvs :=
  let ⟨lo, o, xs, hm, h1, h2⟩ := T
  ⟨lo, o, xs, hs _ hm, h1, h2⟩

/-- a list's items are pairs of ints -/
inductive IPairsL (news : List (Addr × Obj)) : List Value → List (Int × Int) → Prop
  | nil : IPairsL news [] []
  | cons {T : Addr} {oT : Obj} {k v : Int} {u t : Tok} {n : Nat} {ys : List Value} {kvs : List (Int × Int)} : (T, oT) ∈ news → oT.cls = .type "tuple" → oT.data = .seq #[.int k u, .int v t] n → IPairsL news ys kvs →
      IPairsL news (.ref T :: ys) ((k, v) :: kvs)
section
variable {news news' : List (Addr × Obj)} {ys zs : List Value} {kvs lvs : List (Int × Int)}
theorem IPairsL.mono (P : IPairsL news ys kvs) (hs : ∀ p ∈ news, p ∈ news') : IPairsL news' ys kvs := by
  induction P with
  | nil => exact .nil
  | cons h1 h2 h3 _ ih => exact .cons (hs _ h1) h2 h3 ih
theorem IPairsL.append (P : IPairsL news ys kvs) (R : IPairsL news zs lvs) : IPairsL news (ys ++ zs) (kvs ++ lvs) := by
  induction P with
  | nil => exact R
  | cons h1 h2 h3 _ ih => exact .cons h1 h2 h3 ih
theorem IPairsL.length (P : IPairsL news ys kvs) : ys.length = kvs.length := by
  induction P with
  | nil => rfl
  | cons _ _ _ _ ih => rw [List.length_cons, List.length_cons, ih]
theorem IPairsL.at (P : IPairsL news ys kvs) : ∀ i, i < kvs.length → ∃ T oT k v u t n, ys[i]? = some (.ref T) ∧ kvs[i]? = some (k, v) ∧ (T, oT) ∈ news ∧ oT.cls = .type "tuple" ∧ oT.data = .seq #[.int k u, .int v t] n := by
  induction P with
  | nil => intro i hi; exact absurd hi (Nat.not_lt_zero _)
  | cons h1 h2 h3 _ ih =>
    intro i hi
    cases i with
    | zero => exact ⟨_, _, _, _, _, _, _, rfl, rfl, h1, h2, h3⟩
    | succ i => exact ih i (Nat.lt_of_succ_lt_succ hi)
end

section
variable {prog : Program} {w : World} {A : Around} {E : Value → Shared → Prop} {s : Shared} {h₀ h : Heap} {L d a : Addr} {m : Str → Option Value} {news : List (Addr × Obj)} {o : Obj} {kvs : List (Int × Int)} {k : Int}
theorem stored_new {xs : List (Int × Value)} {k : Int} {v : Value} (h : k ∉ xs.map (·.1)) : stored xs k v = xs ++ [(k, v)] := by
  unfold stored
  rw [if_neg]
  intro q
  obtain ⟨x, hx, e⟩ := List.any_eq_true.mp q
  exact h (List.mem_map.mpr ⟨x, hx, of_decide_eq_true e⟩)
theorem it_get {dv : Int} {u dt : Tok} {Q : Value → Shared → Prop} (N : News h₀ L s.heap news) (T : ITabL prog w news d kvs)
    (h : ∀ t, Q (.int ((getT kvs k).getD dv) t) { s with toks := s.toks + 1 }) : wpAny (model prog w) A (call (.builtin "dict.get") [.ref d, .int k u, .int dv dt]) Q E s := by
  obtain ⟨lo, o, xs, hm, hD, hV⟩ := T
  have hD' : s.heap.DictOf (intKind prog w) d xs := Heap.dictOf_iff.mpr ⟨o, N.get hm, hD⟩
  refine call_meetsIn PySem.F.slot_dict_get hD'.typeIs PySem.F.entry_dict_get (PySem.F.args_dict_get_3 _ _ _) (meets_dict_get_default (intKind prog w) _ (show (intKind prog w).is k (.int k u) = true by show Value.isInt k (.int k u) = true; simp [Value.isInt]) lo (.int dv dt)) ⟨_, hD'.mapOf, ?_⟩
  rcases hV.at k with ⟨e1, e2⟩ | ⟨v, t, e1, e2⟩
  · rw [e1]; rw [e2] at h; exact h dt
  · rw [e1]; rw [e2] at h; exact h t

/-- dict(pairs) of int keys -/
theorem d_itab {l : Addr} {ys : List Value} {Q : Value → Shared → Prop} (hh : A.handled = none) (F : Fr h₀ L s.heap m) (N : News h₀ L s.heap news) (hbig : h₀.NoLimit)
    (hl : (l, lst ys) ∈ news) (P : IPairsL news ys kvs) (hn : (kvs.map (·.1)).Nodup) (hz : kvs.length ≤ sizeLine)
    (k : ∀ D oD h' tk, Fr h₀ L h' m → News h₀ L h' ((D, oD) :: news) → (∀ p ∈ news, p.1 < D) → ITabL prog w ((D, oD) :: news) D kvs → Q (.ref D) { s with heap := h', toks := tk }) :
    wpAny (model prog w) A (call (.type "dict") [.ref l]) Q E s := by
  have hsz : ys.toArray.size = kvs.length := by rw [List.size_toArray]; exact P.length
  have hkv : ∀ i, ∃ p : Value × Value, i < kvs.length → ∃ T oT k v u t n, ys[i]? = some (.ref T) ∧ kvs[i]? = some (k, v) ∧ (T, oT) ∈ news ∧ oT.cls = .type "tuple" ∧ oT.data = .seq #[.int k u, .int v t] n ∧ p = (.int k u, .int v t) := fun i => by
    by_cases hi : i < kvs.length
    · obtain ⟨T, oT, k, v, u, t, n, h1, h2, h3, h4, h5⟩ := P.at i hi
      exact ⟨(.int k u, .int v t), fun _ => ⟨T, oT, k, v, u, t, n, h1, h2, h3, h4, h5, rfl⟩⟩
    · exact ⟨(.none, .none), fun q => absurd q hi⟩
  have Nd : ∀ p ∈ news, p.1 < s.heap.objs.size := fun p hp => Heap.lt_size (N p hp).1
  have hnewD : h₀.get? s.heap.objs.size = none := next_is_new F
  refine d_call (its := ys.toArray) (kv := fun i => (hkv i).choose) (fun i h => ∃ oD xs, h.get? s.heap.objs.size = some oD ∧ oD.IsDictOf (intKind prog w) xs ∧ IVals xs (kvs.take i)) hh ⟨_, N.get hl, rfl, rfl, _, rfl⟩ (fun i hi => ?_)
    (fun h hD => ?_) (fun I i h h' hI ⟨oD, xs, hD, T⟩ hk => ⟨oD, xs, hk _ _ (Nat.ne_of_lt hI) hD, T⟩) (fun i s₁ R hi hk ⟨oD, xs, hD, T, hV⟩ => ?_) fun h' tk hk ⟨oD, xs, hD, T, hV⟩ => ?_
  · obtain ⟨T, oT, k, v, u, t, n, h1, h2, h3, h4, h5, h7⟩ := (hkv i).choose_spec (hsz ▸ hi)
    refine ⟨T, by simpa using h1, ?_⟩
    show IsTup s.heap T #[(hkv i).choose.1, (hkv i).choose.2]
    rw [h7]
    exact ⟨oT, N.get h3, h4, n, h5⟩
  · obtain ⟨oD, e, hD'⟩ := Heap.dictOf_iff.mp ((Heap.DictOf.new (knd := intKind prog w) (h : Heap)))
    refine ⟨_, [], hD, ?_, .nil⟩
    have e2 : oD = { cls := .type "dict", data := .dict #[] } := Option.some.inj (e.symm.trans (Heap.get?_push_size _ rfl))
    exact e2 ▸ hD'
  · obtain ⟨T', oT, k, v, u, t, n, h1, h2, h3, h4, h5, h7⟩ := (hkv i).choose_spec (hsz ▸ hi)
    show wpAny _ _ (dictSet s.heap.objs.size (hkv i).choose.1 (hkv i).choose.2) _ _ _
    rw [h7]
    have ht : kvs.take (i + 1) = kvs.take i ++ [(k, v)] := by rw [List.take_add_one, h2]; rfl
    have hnone : k ∉ xs.map (·.1) := fun hq => by
      rw [hV.keys] at hq
      have q : ((kvs.take (i + 1)).map (·.1)).Nodup := hn.sublist ((List.take_sublist _ _).map _)
      rw [ht, List.map_append, List.nodup_append] at q
      exact q.2.2 k hq k (by simp) rfl
    refine wpAny_dictSet_pairs (knd := intKind prog w) (k := k) (hsz := by rw [hV.length, List.length_take]; exact Nat.le_trans (Nat.min_le_right _ _) hz) (by show Value.isInt k (.int k u) = true; simp [Value.isInt]) (Heap.dictOf_iff.mpr ⟨oD, hD, T⟩) fun h' hm' hs' => ?_
    obtain ⟨o', e', hD'⟩ := Heap.dictOf_iff.mp hm'
    rw [stored_new hnone] at hD'
    exact ⟨h', _, rfl, hs', o', _, e', hD', ht ▸ hV.append (.cons .nil)⟩
  · rw [hsz, List.take_length] at hV
    refine k _ oD h' tk (F.keeps hk) (fun p hp => ?_) Nd ⟨F.notModules (modules_low hbig), oD, xs, List.mem_cons_self, T, hV⟩
    rcases List.mem_cons.mp hp with rfl | hp
    · exact ⟨hD, Nat.ne_of_gt F.ns.lt, hnewD⟩
    · exact ⟨hk _ _ (N.get hp), (N p hp).2⟩
end
end Mine

namespace Mine
open PySem.Calls PyProof.V PySem.Spec PyProof.Rows.LCg
section
variable {prog : Program} {w : World} {A : Around} {E : Value → Shared → Prop} {s : Shared} {h₀ : Heap} {L : Addr} {m : Str → Option Value} {env : Env}
/-- a comprehension over enumerate(l) -/
noncomputable def CpEnum (prog : Program) (w : World) (A : Around) (h₀ : Heap) (L : Addr) (m : Str → Option Value) (env : Env) (ifs : List PySem.Expr) (elt : PySem.Expr) (x x₂ : Str) (scope : Scope) (cl : List (Str × Addr)) (Q : Value → Shared → Prop) (xv : Value) (s₁ : Shared) : Prop :=
  ∃ (e it l : Addr) (old : Value) (vs : List Value) (news : List (Addr × Obj)) (J : Nat → List Value → List (Addr × Obj) → Prop), xv = .ref e ∧ A.handled = none ∧ Fr h₀ L s₁.heap m ∧ News h₀ L s₁.heap news ∧ IsEnum s₁.heap e it 0 old ∧ s₁.heap.IsListIter it l 0 ∧ s₁.heap.IsList l vs.toArray ∧
    e ≠ it ∧ l ≠ e ∧ l ≠ it ∧ L ≠ e ∧ L ≠ it ∧ L ≠ l ∧ h₀.get? e = none ∧ h₀.get? it = none ∧ (∀ p ∈ news, p.1 ≠ e ∧ p.1 ≠ it) ∧ vs.length ≤ sizeLine ∧ J 0 [] news ∧
    (∀ i t v₂ ys nx own C oC D m₂ h tk (E' : Value → Shared → Prop), i < vs.length → vs[i]? = some v₂ → J i ys nx → Apart [e, it] C D nx → NsObj oC m₂ → m₂ x = some (.int (i : Int) t) → m₂ x₂ = some v₂ → Fr h₀ L h m → News h₀ L h (own ++ (C, oC) :: (D, lst ys) :: nx) → C ≠ D → e < C → it < C → ys.length ≤ i →
      ElTurn prog w A h₀ L m env ifs elt scope cl [e, it] own C oC D (lst ys) { s₁ with heap := h, toks := tk } (fun y => J (i + 1) (ys ++ [y])) (J (i + 1) ys) E') ∧
    (∀ D h tk ys nx, Fr h₀ L h m → News h₀ L h ((D, lst ys) :: nx) → (∀ p ∈ nx, p.1 ≠ D) → J vs.length ys nx → Q (.ref D) { s₁ with heap := h, toks := tk })

theorem bk_enum {elt iter : PySem.Expr} {ifs : List PySem.Expr} {x x₂ : Str} {px px₂ tp : Pos} {tk} {scope : Scope} {cl : List (Str × Addr)} {pos : Pos} {Q : Value → Shared → Prop} (_F₀ : Fr h₀ L s.heap m)
    (hclos : closureFor scope env = pure cl) (hcell : ∀ y ∈ scope.names, y.2 ≠ .cell) (hkind : scope.kind = .function)
    (hnames : ∀ y ∈ scope.names, y.2 = .local → scope.names.lookup y.1 = some .local) (hx : scope.names.lookup x = some .local) (hx₂ : scope.names.lookup x₂ = some .local) (hxx : x ≠ x₂)
    (h : wpAny (model prog w) A (eval iter env) (CpEnum prog w A h₀ L m env ifs elt x x₂ scope cl Q) E s)
    (hs : ∀ x, foldedSetIterable iter env x = pure x := by intro _; rfl) :
    wpAny (model prog w) A (eval (.ListComp elt [⟨.Tuple [.Name x px, .Name x₂ px₂] tk tp, iter, ifs, 0⟩] scope pos) env) Q E s := by
  rw [eval_ListComp]
  refine wpAny_comprehension_free (use := none) rfl hs hclos hkind hnames (wpAny_mono h (fun xv s₁ h₁ => ?_) fun _ _ e => e)
  obtain ⟨e, it, l, old, vs, news, J, rfl, hh, F, N, hE, hI, hL, hei, hle, hli, hLe, hLi, hLl, he₀, hi₀, off, hsz, h0, turn, fin⟩ := h₁
  have helt : e < s₁.heap.objs.size := Heap.lt_size hE
  have hilt : it < s₁.heap.objs.size := by obtain ⟨_, q, _⟩ := hI; exact Heap.lt_size q
  have hllt : l < s₁.heap.objs.size := by obtain ⟨_, q, _⟩ := hL; exact Heap.lt_size q
  refine wpAny_pyIter_enum hE ?_
  refine bk_block J (fun i v₁ v₂ => ∃ t, v₁ = .int (i : Int) t ∧ vs[i]? = some v₂) (KTurns.ofWalksU (WalksT.enumerate hh e it l hei hle hli vs.toArray).toU) (fun i v h ⟨T, vals, h1, ⟨t, y, h2, h3⟩, h4⟩ => ⟨T, _, _, h1, h3 ▸ h4, t, rfl, by simpa using h2⟩)
    (fun s Q E st hq => let ⟨⟨_, hE'⟩, _⟩ := st; wpAny_pyIter_enum hE' hq) (by rw [List.size_toArray]; exact hsz) hh hcell hkind hx hx₂ hxx ⟨⟨_, hE⟩, hI, hL⟩ (fun b hb => ?_) F N ?_ (fun b hb => ?_) (fun p hp hq => ?_) h0 ?_ ?_
  · have hb' : b = e ∨ b = it ∨ b = l := by simpa using hb
    rcases hb' with rfl | rfl | rfl
    · exact helt
    · exact hilt
    · exact hllt
  · intro hq
    have hb' : L = e ∨ L = it ∨ L = l := by simpa using hq
    rcases hb' with q | q | q
    · exact hLe q
    · exact hLi q
    · exact hLl q
  · have hb' : b = e ∨ b = it := by simpa using hb
    rcases hb' with rfl | rfl
    · exact he₀
    · exact hi₀
  · have hb' : p.1 = e ∨ p.1 = it := by simpa using hq
    rcases hb' with q | q
    · exact (off p hp).1 q
    · exact (off p hp).2 q
  · rintro i v₁ v₂ ys nx own C oC D m₂ h tk' E' hi ⟨t, rfl, h2⟩ hJ ap hC h1 h2' F' N' hCD hIC hyl
    rw [List.size_toArray] at hi
    exact turn i t v₂ ys nx own C oC D m₂ h tk' E' hi h2 hJ ap hC h1 h2' F' N' hCD (hIC e (by simp)) (hIC it (by simp)) hyl
  · intro D C h tk' m' ys nx F' N' o1 hn hC₀ hD₀ hCL hDL hCD offC hJ
    rw [List.size_toArray] at hJ
    refine ⟨m', hn, fun h'' hs'' => fin D h'' tk' ys nx (F'.change hs'' hCL hC₀) (fun p hp => ?_) o1 hJ⟩
    refine ⟨hs''.extBut _ _ ?_ (N' p hp).1, (N' p hp).2⟩
    rcases List.mem_cons.mp hp with rfl | hp
    · exact Ne.symm hCD
    · exact offC p hp

theorem enum_call {l : Addr} {c : Nat} {vs : List Value} {news : List (Addr × Obj)} {ifs : List PySem.Expr} {elt : PySem.Expr} {x x₂ : Str} {scope : Scope} {cl : List (Str × Addr)} {Q : Value → Shared → Prop} (J : Nat → List Value → List (Addr × Obj) → Prop)
    (hh : A.handled = none) (F : Fr h₀ L s.heap m) (N : News h₀ L s.heap news) (hm : (l, W.listOf vs.toArray c) ∈ news) (hsz : vs.length ≤ sizeLine) (h0 : J 0 [] news)
    (turn : ∀ e it, (∀ p ∈ news, p.1 < it) → it < e → ∀ i t v₂ ys nx own C oC D m₂ h tk (E' : Value → Shared → Prop), i < vs.length → vs[i]? = some v₂ → J i ys nx → Apart [e, it] C D nx → NsObj oC m₂ → m₂ x = some (.int (i : Int) t) → m₂ x₂ = some v₂ → Fr h₀ L h m → News h₀ L h (own ++ (C, oC) :: (D, lst ys) :: nx) → C ≠ D → e < C → it < C → ys.length ≤ i →
      ElTurn prog w A h₀ L m env ifs elt scope cl [e, it] own C oC D (lst ys) { s with heap := h, toks := tk } (fun y => J (i + 1) (ys ++ [y])) (J (i + 1) ys) E')
    (fin : ∀ D h tk ys nx, Fr h₀ L h m → News h₀ L h ((D, lst ys) :: nx) → (∀ p ∈ nx, p.1 ≠ D) → J vs.length ys nx → Q (.ref D) { s with heap := h, toks := tk }) :
    wpAny (model prog w) A (call (.type "enumerate") [.ref l]) (CpEnum prog w A h₀ L m env ifs elt x x₂ scope cl Q) E s := by
  have hl : s.heap.IsList l vs.toArray := ⟨_, N.get hm, rfl, _, rfl⟩
  have hax := N _ hm
  have hlt : l < s.heap.objs.size := Heap.lt_size hax.1
  have hLs : L < s.heap.objs.size := F.ns.lt
  have hlt1 : l ≠ s.heap.objs.size := Nat.ne_of_lt hlt
  refine call_enumerate_list hl fun h' hE hI hsz' hk => ?_
  have fresh₀ : ∀ a, s.heap.objs.size ≤ a → h₀.get? a = none := fun a ha => by
    cases e : h₀.get? a with
    | none => rfl
    | some o' => exact absurd (Heap.lt_size (F.keep a o' e)) (Nat.not_lt.mpr ha)
  have lt1 : s.heap.objs.size < s.heap.objs.size + 1 := Nat.lt_succ_self _
  refine ⟨s.heap.objs.size + 1, s.heap.objs.size, l, _, vs, news, J, rfl, hh, F.keeps hk, N.grown hk, hE, hI, hl.at fun o e => hk l o e, Nat.ne_of_gt lt1, Nat.ne_of_lt (Nat.lt_trans hlt lt1), hlt1, Nat.ne_of_lt (Nat.lt_trans hLs lt1), Nat.ne_of_lt hLs, Ne.symm hax.2.1,
    fresh₀ _ (Nat.le_succ _), fresh₀ _ (Nat.le_refl _), fun p hp => ?_, hsz, h0, ?_, ?_⟩
  · have q : p.1 < s.heap.objs.size := Heap.lt_size (N p hp).1
    exact ⟨Nat.ne_of_lt (Nat.lt_trans q lt1), Nat.ne_of_lt q⟩
  · exact turn (s.heap.objs.size + 1) s.heap.objs.size (fun p hp => Heap.lt_size (N p hp).1) lt1
  · exact fin
end
end Mine

namespace Mine
open PySem.Calls PyProof.V PySem.Spec

structure Hold (P : Prop) : Prop where
  out : P
noncomputable abbrev PG : Program := PySem.Challenge.rw_gz0002_01.row.prog
noncomputable abbrev LO : List Str := looseW Mine.hd.view_39 [Str.ofString "insort_left", Str.ofString "bisect_left"]

noncomputable abbrev Ret (h₀ : Heap) (L : Addr) (m : Str → Option Value) (news : List (Addr × Obj)) (s : Shared) (Q : Value → Shared → Prop) (Out : List (Addr × Obj) → Value → Prop) : Prop :=
  ∀ r tl h' tk', Fr h₀ L h' m → News h₀ L h' (tl ++ news) → (∀ q ∈ news, ∀ p ∈ tl, q.1 < p.1) → Out (tl ++ news) r → Q r { s with heap := h', toks := tk' }

/-- a contract of a def: from any caller, what it needs of the ledger, what comes back -/
noncomputable abbrev Spc (w : World) (mean : ExcName → Option Value) (mg mb : Str → Option Value) (f : Addr) (dep uni : Nat) (vs : List Value) (Pre : List (Addr × Obj) → Prop) (Out : List (Addr × Obj) → Value → Prop) : Prop :=
  ∀ (dp un : Nat) (gd : Option (List Code)) (cn : Str) (cs : Scope) (a : Addr) (ccd : Value) (cl : List (Str × Addr)) (outer : List Env) (A₀ : Around) (base h₀ : Heap) (L : Addr) (m : Str → Option Value) (news : List (Addr × Obj)) (s : Shared)
    (Q E : Value → Shared → Prop),
    Below A₀ base outer h₀ → Fr h₀ L s.heap m → (Mine.hd.heap_39 w.params).In h₀ → News h₀ L s.heap news → Top Mine.hd.view_39 LO mean mg mb h₀ → cs.kind = .function → dp + dep < recursionLimit → un + uni < cLine → Pre news →
    Ret h₀ L m news s Q Out →
    wpAny (model PG w) (ktrTop dp un gd cn cs L a ccd cl outer) (call (.ref f) vs) Q E s

end Mine

namespace Mine
open PySem.Calls PyProof.V PySem.Spec

noncomputable abbrev RetN (h₀ : Heap) (L : Addr) (m : Str → Option Value) (news : List (Addr × Obj)) (s : Shared) (Q : Value → Shared → Prop) (Out : List (Addr × Obj) → Value → Prop) : Prop :=
  ∀ r tl h' tk', Fr h₀ L h' m → News h₀ L h' (tl ++ news) → (∀ q ∈ news, ∀ p ∈ tl, p.1 ≠ q.1) → Out (tl ++ news) r → Q r { s with heap := h', toks := tk' }

/-- a contract of a def whose new objects are only known to be other ones -/
noncomputable abbrev SpcN (w : World) (mean : ExcName → Option Value) (mg mb : Str → Option Value) (f : Addr) (dep uni : Nat) (vs : List Value) (Pre : List (Addr × Obj) → Prop) (Out : List (Addr × Obj) → Value → Prop) : Prop :=
  ∀ (dp un : Nat) (gd : Option (List Code)) (cn : Str) (cs : Scope) (a : Addr) (ccd : Value) (cl : List (Str × Addr)) (outer : List Env) (A₀ : Around) (base h₀ : Heap) (L : Addr) (m : Str → Option Value) (news : List (Addr × Obj)) (s : Shared)
    (Q E : Value → Shared → Prop),
    Below A₀ base outer h₀ → Fr h₀ L s.heap m → (Mine.hd.heap_39 w.params).In h₀ → News h₀ L s.heap news → Top Mine.hd.view_39 LO mean mg mb h₀ → cs.kind = .function → dp + dep < recursionLimit → un + uni < cLine → Pre news →
    RetN h₀ L m news s Q Out →
    wpAny (model PG w) (ktrTop dp un gd cn cs L a ccd cl outer) (call (.ref f) vs) Q E s

end Mine

namespace Mine
open PySem.Calls PyProof.V PySem.Spec

local macro_rules | `(tactic| k_mem) => `(tactic| assumption)
local macro_rules | `(tactic| k_all) => `(tactic| first | exact ne_of_lts (by assumption) | exact ne_of_allLt (by assumption) | assumption)
local macro_rules | `(tactic| walk_at "exec For Tuple Call cons nil") => `(tactic| (k_here; (rename Fr _ _ _ _ => lF'); (with_unfolding_all refine' For_turns lF' ?_; k_whole)))
local macro_rules | `(tactic| walk_at "getMethod ref") => `(tactic| (k_here; (with_reducible show wpAny _ _ (getMethod (Value.ref _) (Str.ofString "items") _) _ _ _); k_dflt (refine' rdN_method PySem.F.slot_dict_items PySem.F.type_dict_items ?N ?p ?r ?_; (case N => k_asm); (case p => k_mem); (case r => k_asm))))
local macro_rules | `(tactic| walk_at "call builtin:dict.items") => `(tactic| (k_here; k_dflt (refine' rdN_items ?F ?N ?p ?r ?lo ?_; (case F => k_asm); (case N => k_asm); (case p => k_mem); (case r => k_asm); (case lo => k_asm)); intro V' h' F' N' l1; (try k_sweep)))

local macro_rules | `(tactic| walk_at "setItem ref ref") => `(tactic| (k_here; k_dflt (refine' tb_setItem ?u ?F ?N ?U ?s ?T ?K ?z ?_; (case F => k_asm); (case N => k_asm); (case T => k_asm); (case U => k_updF); (case K => k_asm); (case z => k_asm); (case s => (intro p hp; kcf_m)); (case u => (have hcL9 := cLine_is; simp only [units_in1, units_deeper, Around.mark_units, units_caller]; (try dsimp only [ktrTop]); omega))); intro h' o' F' N' T'; (try dsimp only at N'); (try k_sweep)))

local macro_rules | `(tactic| walk_at "compareOp In ref ref") => `(tactic| (k_here; k_dflt (first
  | (refine' tb_inB true ?b ?u ?N ?p ?s ?lo ?T ?K ?_; (case b => with_reducible assumption); (case N => k_asm); (case p => k_mem); (case lo => k_asm); (case T => k_asm); (case K => k_asm); (case s => (intro p hp; kcf_m)); (case u => (have hcL9 := cLine_is; simp only [units_in1, units_deeper, Around.mark_units, units_caller]; (try dsimp only [ktrTop]); omega)))
  | (refine' tb_inB false ?b ?u ?N ?p ?s ?lo ?T ?K ?_; (case b => with_reducible assumption); (case N => k_asm); (case p => k_mem); (case lo => k_asm); (case T => k_asm); (case K => k_asm); (case s => (intro p hp; kcf_m)); (case u => (have hcL9 := cLine_is; simp only [units_in1, units_deeper, Around.mark_units, units_caller]; (try dsimp only [ktrTop]); omega))))))
local macro_rules | `(tactic| walk_at "getItem ref ref") => `(tactic| (k_here; k_dflt (refine' tb_getItem ?u ?N ?p ?s ?T ?K ?v ?_; (case v => with_reducible assumption); (case N => k_asm); (case p => k_mem); (case T => k_asm); (case K => k_asm); (case s => (intro p hp; kcf_m)); (case u => (have hcL9 := cLine_is; simp only [units_in1, units_deeper, Around.mark_units, units_caller]; (try dsimp only [ktrTop]); omega)); intro t')))

theorem reset_A1 : True := by
  w_top off
  trivial
theorem add_spec (w : World) (mean : ExcName → Option Value) (mg mb : Str → Option Value) (ta sa : Addr) (kt : List (Int × Int)) (k v : Int) :
    Spc w mean mg mb 21 3 30 [.ref ta, .ref sa] (fun news => TabL PG w news ta kt ∧ TabL PG w news sa [(k, v)] ∧ kt.length ≤ sizeLine) (fun news r => ∃ d, r = .ref d ∧ TabL PG w news d (addT kt k v)) := by
  have kf : PySem.Challenge.rw_gz0002_01.row.prog = PySem.Challenge.rw_gz0002_01.row.prog ∧ Mine.hd.heap_39 = Mine.hd.heap_39 := by k_fill; exact ⟨rfl, rfl⟩
  clear kf
  intro dp un gd cn cs a ccd cl outer A₀ base h₀ L m news s Q E B F X N T hk hdp hun hpre hret
  obtain ⟨⟨lo1, o1, xs1, hm1, T1⟩, ⟨lo2, o2, xs2, hm2, T2⟩, hzt⟩ := hpre
  obtain ⟨es1, ep1, r1, e1, n1, k1, v1⟩ := id T1
  obtain ⟨es2, ep2, r2, e2, n2, k2, v2⟩ := id T2
  refine wpAny_call ?_
  k_dflt ktr_enter
  k_steps
  rename_i g' L' _ FG' B' X' T' D h1 oD lD loD _ _ hiD _ _ V h3 F3 N3 lV
  have TD : TabO PG w news oD [] [] := TabO.empty (by assumption)
  have off0 : ∀ p ∈ (D, oD) :: news, p.1 < V := lV
  refine rd_forItems (by rfl) F3 (fun p hp => N3 p (List.mem_cons_of_mem _ hp)) ⟨_, (N3 _ (List.mem_cons_self)).1, rfl, rfl⟩ (List.mem_cons_of_mem _ hm1) r1 fun I lI => ?_
  rw [itemsOf_tab e1]
  refine rest_items (fun r m nx => ∃ ys kd ky xsD oD, r = ys.map itm ∧ kt = kd ++ ky ∧ ValsAre ys ky ∧ (∀ x ∈ ys, KeyL PG w news x.2.1 x.1) ∧ nx = (D, oD) :: news ∧ TabO PG w news oD xsD kd ∧ m (Str.ofString "new_callers") = some (.ref D) ∧ m (Str.ofString "source") = some (.ref sa))
    (fun r m nx ⟨_, _, _, _, _, _, _, _, _, e, _⟩ => e ▸ List.mem_cons_of_mem _ hm1) ?turn ?done _ _ _ ⟨xs1, [], kt, [], oD, rfl, rfl, v1, fun x hx => T1.key hx, rfl, TD, rfl, rfl⟩ (ne_of_lts lI)
  case turn =>
    rintro e r m nx v h tk oI ⟨ys, kd, ky, xsD, oD', e0, ek, hv, hkeys, rfl, TD', hm1', hm2'⟩ off hc hvis F N
    cases hv with
    | nil => cases e0
    | @cons n a' vv t ys ky hv =>
      rw [List.map_cons] at e0
      injection e0 with e0 e0'
      subst e0
      obtain ⟨Tt, t', rfl, hTt⟩ := hvis
      have K' : KeyL PG w news a' n := hkeys (n, a', .int vv t) List.mem_cons_self
      replace F := fr_pin2 F hm1' hm2'
      replace hTt : IsTup h Tt #[.ref a', .int vv t] := hTt
      have hz : kd.length ≤ sizeLine := Nat.le_trans (by rw [ek, List.length_append]; exact Nat.le_add_right _ _) hzt
      have lDI : @LT.lt Nat _ D I := lI (D, oD) List.mem_cons_self
      k_steps
      rename_i h9 o9 F9 N9 T9
      have hn : getT kd n = none := getT_none_of fun hq => by
        have q := T1.nodup
        rw [ek, List.map_append, List.map_cons, List.nodup_append] at q
        exact q.2.2 n hq n List.mem_cons_self rfl
      rw [getT_append_none hn] at T9
      exact ⟨rfl, _, _, _, (D, _) :: news, rfl, F9, N9, fun p hp => (List.mem_cons.mp hp).elim (fun e => by rw [e]; exact Nat.ne_of_lt lDI) fun hp => off p (List.mem_cons_of_mem _ hp), ys, kd ++ [(n, vv)], ky, _, _, e0', by rw [ek, List.append_assoc]; rfl, hv, fun x hx => hkeys x (List.mem_cons_of_mem _ hx), rfl, T9, rfl, rfl⟩
  case done =>
    rintro m nx h tk ⟨ys, kd, ky, xsD, oD', e0, ek, hv, hkeys, rfl, TD', hm1', hm2'⟩ off F N
    have hys : ys = [] := List.map_eq_nil_iff.mp e0.symm
    subst hys
    cases hv
    rw [List.append_nil] at ek
    subst ek
    replace F := fr_pin2 F hm1' hm2'
    have lDI : @LT.lt Nat _ D I := lI (D, oD) List.mem_cons_self
    k_steps
    rename_i V2 h5 F5 N5 lV2
    have off2 : ∀ p ∈ (D, oD') :: news, p.1 < V2 := lV2
    cases v2
    rename_i a2 t2 xs2 hv2
    cases hv2
    refine rd_forItems (by rfl) F5 (fun p hp => N5 p (List.mem_cons_of_mem _ hp)) ⟨_, (N5 _ (List.mem_cons_self)).1, rfl, rfl⟩ (List.mem_cons_of_mem _ hm2) r2 fun I2 lI2 => ?_
    rw [itemsOf_tab e2]
    refine rest_items (fun r m nx => ∃ xsD oD, nx = (D, oD) :: news ∧ m (Str.ofString "new_callers") = some (.ref D) ∧ ((r = [itm (k, a2, .int v t2)] ∧ TabO PG w news oD xsD kt) ∨ (r = [] ∧ TabO PG w news oD xsD (addT kt k v))))
      (fun r m nx ⟨_, _, e, _⟩ => e ▸ List.mem_cons_of_mem _ hm2) ?turn ?done _ _ _ ⟨_, oD', rfl, rfl, .inl ⟨rfl, TD'⟩⟩ (ne_of_lts lI2)
    case turn =>
      rintro e r m nx u h tk oI ⟨xsD, oD', rfl, hm1', ⟨e0, TD'⟩ | ⟨e0, _⟩⟩ off hc hvis F N
      · injection e0 with e0 e0'
        subst e0 e0'
        obtain ⟨Tt, t', rfl, hTt⟩ := hvis
        have K' : KeyL PG w news a2 k := T2.key List.mem_cons_self
        replace F := fr_pin F hm1'
        replace hTt : IsTup h Tt #[.ref a2, .int v t2] := hTt
        have lDI : @LT.lt Nat _ D I2 := lI2 (D, _) List.mem_cons_self
        cases hg : getT kt k with
        | none =>
          have hb : (getT kt k).isSome = false := by rw [hg]; rfl
          k_steps
          rename_i h9 o9 F9 N9 T9
          rw [← addT_none hg] at T9
          exact ⟨rfl, _, _, _, (D, _) :: news, rfl, F9, N9, fun p hp => (List.mem_cons.mp hp).elim (fun e => by rw [e]; exact Nat.ne_of_lt lDI) fun hp => off p (List.mem_cons_of_mem _ hp), _, _, rfl, rfl, .inr ⟨by first | rfl | trivial, T9⟩⟩
        | some u =>
          have hb : (getT kt k).isSome = true := by rw [hg]; rfl
          k_steps
          rename_i h9 o9 F9 N9 T9
          rw [← addT_some hg] at T9
          exact ⟨rfl, _, _, _, (D, _) :: news, rfl, F9, N9, fun p hp => (List.mem_cons.mp hp).elim (fun e => by rw [e]; exact Nat.ne_of_lt lDI) fun hp => off p (List.mem_cons_of_mem _ hp), _, _, rfl, rfl, .inr ⟨by first | rfl | trivial, T9⟩⟩
      · cases e0
    case done =>
      rintro m nx h tk ⟨xsD, oD', rfl, hm1', ⟨e0, _⟩ | ⟨_, TD'⟩⟩ off F N
      · cases e0
      · replace F := fr_pin F hm1'
        k_steps
        rename_i kF kN _ _
        exact hret _ [(D, oD')] _ _ kF kN (fun q hq p hp => by rw [List.mem_singleton.mp hp]; exact lD q hq) ⟨D, rfl, loD, oD', xsD, List.mem_cons_self, TD'.mono fun p hp => List.mem_cons_of_mem _ hp⟩
end Mine

namespace Mine
open PySem.Calls PyProof.V PySem.Spec PyProof.Rows.LCg
local macro_rules | `(tactic| k_mem) => `(tactic| assumption)
local macro_rules | `(tactic| k_all) => `(tactic| first | exact ne_of_lts (by assumption) | exact ne_of_allLt (by assumption) | assumption)
local macro_rules | `(tactic| walk_at "exec For Tuple Call cons nil") => `(tactic| (k_here; (rename Fr _ _ _ _ => lF'); (with_unfolding_all refine' For_turns lF' ?_; k_whole)))
local macro_rules | `(tactic| walk_at "getMethod ref") => `(tactic| (k_here; k_dflt (first
  | ((with_reducible show wpAny _ _ (getMethod (Value.ref _) (Str.ofString "items") _) _ _ _); (refine' rdN_method PySem.F.slot_dict_items PySem.F.type_dict_items ?N ?p ?r ?_; (case N => k_asm); (case p => k_mem); (case r => k_asm)))
  | ((with_reducible show wpAny _ _ (getMethod (Value.ref _) (Str.ofString "values") _) _ _ _); (refine' rdN_method PySem.F.slot_dict_values PySem.F.type_dict_values ?N ?p ?r ?_; (case N => k_asm); (case p => k_mem); (case r => k_asm)))
  | ((with_reducible show wpAny _ _ (getMethod (Value.ref _) (Str.ofString "get") _) _ _ _); (refine' rdN_method PySem.F.slot_dict_get PySem.F.type_dict_get ?N ?p ?r ?_; (case N => k_asm); (case p => k_mem); (case r => k_asm))))))
local macro_rules | `(tactic| walk_at "call builtin:dict.items") => `(tactic| (k_here; k_dflt (refine' rdN_items ?F ?N ?p ?r ?lo ?_; (case F => k_asm); (case N => k_asm); (case p => k_mem); (case r => k_asm); (case lo => k_asm)); intro V' h' F' N' l1; (try k_sweep)))
local macro_rules | `(tactic| walk_at "call builtin:dict.values") => `(tactic| (k_here; k_dflt (refine' rdN_values ?F ?N ?p ?r ?lo ?_; (case F => k_asm); (case N => k_asm); (case p => k_mem); (case r => k_asm); (case lo => k_asm)); intro V' h' F' N' l1; (try k_sweep)))
local macro_rules | `(tactic| walk_at "setItem ref ref") => `(tactic| (k_here; k_dflt (refine' tb_setItem ?u ?F ?N ?U ?s ?T ?K ?z ?_; (case F => k_asm); (case N => k_asm); (case T => k_asm); (case U => k_updF); (case K => k_asm); (case z => k_asm); (case s => (intro p hp; kcf_m)); (case u => (have hcL9 := cLine_is; simp only [units_in1, units_deeper, Around.mark_units, units_caller]; (try dsimp only [ktrTop]); omega))); intro h' o' F' N' T'; (try dsimp only at N'); (try k_sweep)))
local macro_rules | `(tactic| walk_at "compareOp In ref ref") => `(tactic| (k_here; k_dflt (first
  | (refine' tb_inB true ?b ?u ?N ?p ?s ?lo ?T ?K ?_; (case b => with_reducible assumption); (case N => k_asm); (case p => k_mem); (case lo => k_asm); (case T => k_asm); (case K => k_asm); (case s => (intro p hp; kcf_m)); (case u => (have hcL9 := cLine_is; simp only [units_in1, units_deeper, Around.mark_units, units_caller]; (try dsimp only [ktrTop]); omega)))
  | (refine' tb_inB false ?b ?u ?N ?p ?s ?lo ?T ?K ?_; (case b => with_reducible assumption); (case N => k_asm); (case p => k_mem); (case lo => k_asm); (case T => k_asm); (case K => k_asm); (case s => (intro p hp; kcf_m)); (case u => (have hcL9 := cLine_is; simp only [units_in1, units_deeper, Around.mark_units, units_caller]; (try dsimp only [ktrTop]); omega))))))
local macro_rules | `(tactic| walk_at "getItem ref ref") => `(tactic| (k_here; k_dflt (refine' tb_getItem ?u ?N ?p ?s ?T ?K ?v ?_; (case v => with_reducible assumption); (case N => k_asm); (case p => k_mem); (case T => k_asm); (case K => k_asm); (case s => (intro p hp; kcf_m)); (case u => (have hcL9 := cLine_is; simp only [units_in1, units_deeper, Around.mark_units, units_caller]; (try dsimp only [ktrTop]); omega)); intro t')))

local macro_rules | `(tactic| walk_at "call ref") => `(tactic| (k_here; refine Hold.out ?_))
local macro_rules | `(tactic| walk_at "call type:dict") => `(tactic| (k_here; refine Hold.out ?_))
local macro_rules | `(tactic| walk_at "eval ListComp") => `(tactic| (k_here; refine Hold.out ?_))
local macro_rules | `(tactic| walk_at "eval Dict") => `(tactic| (k_here; k_dflt (refine' dk_dict ?F ?N (TopRead.nolimit (by k_asm)) ?_; (case F => k_asm); (case N => k_asm); k_whole); intro d' o' h' F' N' l1 lo' T'; (try k_sweep)))
local macro_rules | `(tactic| walk_at "subscriptTail") => `(tactic| (k_here; (with_reducible show wpAny _ _ (subscriptTail _ _ (Value.ref _) (Value.int 1 _)) _ _ _); k_dflt (refine' key_item ?N ?K ?_; (case K => k_asm); (case N => (refine fun p hp => (by assumption : News _ _ _ _) p ?_; kcf_m)); intro t')))
local macro_rules | `(tactic| walk_at "dictSet ref int") => `(tactic| (k_here; k_dflt (refine' dk_store ?u ?F ?N ?U ?T ?K ?_; (case F => k_asm); (case N => k_asm); (case T => k_asm); (case U => k_updF); (case K => exact KeyL.made (by k_mem)); (case u => (have hcL9 := cLine_is; simp only [units_in1, units_deeper, Around.mark_units, units_caller]; (try dsimp only [ktrTop]); omega))); intro h' o' xs' F' N' T'; (try dsimp only at N' T'); (try k_sweep)))
local macro_rules | `(tactic| walk_at "newTuple") => `(tactic| (k_here; k_dflt (refine' kup_newTuple ?F ?N ?_ ?z; (case F => k_asm); (case N => k_asm); (case z => kmk_size)); intro D' h' F' N' l1; (try k_lt l1); (try k_sweep)))

noncomputable def Small (l : List (Int × Int)) : Prop := ∀ p ∈ l, -1000000 ≤ p.2 ∧ p.2 ≤ 1000000
noncomputable def timesIn (n o bound : Int) (acc kt : List (Int × Int)) : List (Int × Int) := kt.foldl (fun acc q => if n + q.1 ≤ bound then addT acc (n + q.1) (o * q.2) else acc) acc
noncomputable def timesAll (ko kt : List (Int × Int)) (bound : Int) : List (Int × Int) := ko.foldl (fun acc p => timesIn p.1 p.2 bound acc kt) []
noncomputable def timesF (ko kt : List (Int × Int)) (bound : Int) : List (Int × Int) := (timesAll ko kt bound).filter fun p => decide (p.2 ≠ 0)

theorem reset_A2 : True := by
  w_top off
  trivial
theorem addT_len (l : List (Int × Int)) (k v : Int) : (addT l k v).length ≤ l.length + 1 := by
  unfold addT putT
  split
  · rw [List.length_map]; exact Nat.le_succ _
  · simp
theorem timesIn_snoc (n o b : Int) (acc kd : List (Int × Int)) (k v : Int) : timesIn n o b acc (kd ++ [(k, v)]) = if n + k ≤ b then addT (timesIn n o b acc kd) (n + k) (o * v) else timesIn n o b acc kd := by
  simp only [timesIn, List.foldl_append, List.foldl_cons, List.foldl_nil]
theorem timesAll_snoc (b : Int) (kd kt : List (Int × Int)) (k v : Int) : timesAll (kd ++ [(k, v)]) kt b = timesIn k v b (timesAll kd kt b) kt := by
  simp only [timesAll, List.foldl_append, List.foldl_cons, List.foldl_nil]
theorem TabL.drop {prog : Program} {w : World} {news news' : List (Addr × Obj)} {d I : Addr} {oI : Obj} {kvs : List (Int × Int)} {wn : String} (T : TabL prog w news d kvs) (hc : oI.cls = .type wn) (h1 : wn ≠ "dict") (h2 : wn ≠ "tuple")
    (hs : ∀ p ∈ news, p ∈ news' ∨ p = (I, oI)) : TabL prog w news' d kvs := by
  obtain ⟨lo, o, xs, hm, es, ep, r, e, n, hk, hv⟩ := T
  refine ⟨lo, o, xs, ?_, es, ep, r, e, n, fun x hx => ?_, hv⟩
  · rcases hs _ hm with h | h
    · exact h
    · cases h
      have q := r.x.1
      rw [hc] at q
      injection q with q
      exact absurd q h1
  · obtain ⟨ok, hmk, t⟩ := hk x hx
    rcases hs _ hmk with h | h
    · exact ⟨ok, h, t⟩
    · cases h
      have q := t.1
      rw [hc] at q
      injection q with q
      exact absurd q h2

theorem tab_at {prog : Program} {w : World} {es : Array DictEntry} {xs : List (Int × Addr × Value)} {kvs : List (Int × Int)} (he : es.toList = xs.map (entryOfKey (atKind prog w))) (hv : ValsAre xs kvs) {i : Nat} {e : DictEntry} (hi : es[i]? = some e) :
    ∃ k a v t, (k, a, Value.int v t) ∈ xs ∧ kvs[i]? = some (k, v) ∧ e.key = .ref a ∧ e.val = .int v t := by
  rw [← Array.getElem?_toList, he, List.getElem?_map] at hi
  clear he
  induction hv generalizing i with
  | nil => simp at hi
  | @cons n a v t xs kvs _ ih =>
    cases i with
    | zero =>
      simp only [List.getElem?_cons_zero, Option.map_some, Option.some.injEq] at hi
      subst hi
      exact ⟨n, a, v, t, List.mem_cons_self, rfl, rfl, rfl⟩
    | succ i =>
      simp only [List.getElem?_cons_succ] at hi
      obtain ⟨k, b, u, t', h1, h2, h3, h4⟩ := ih hi
      exact ⟨k, b, u, t', List.mem_cons_of_mem _ h1, by simpa using h2, h3, h4⟩

theorem times_spec (w : World) (mean : ExcName → Option Value) (mg mb : Str → Option Value) (oa ta : Addr) (ko kt : List (Int × Int)) (bound : Int) (bt : Tok) :
    Spc w mean mg mb 51 6 60 [.ref oa, .ref ta, .int bound bt] (fun news => TabL PG w news oa ko ∧ TabL PG w news ta kt ∧ Small ko ∧ ko.length ≤ 64 ∧ kt.length ≤ 64) (fun news r => ∃ d, r = .ref d ∧ TabL PG w news d (timesF ko kt bound)) := by
  have kf : PySem.Challenge.rw_gz0002_01.row.prog = PySem.Challenge.rw_gz0002_01.row.prog ∧ Mine.hd.heap_39 = Mine.hd.heap_39 := by k_fill; exact ⟨rfl, rfl⟩
  clear kf
  intro dp un gd cn cs a ccd cl outer A₀ base h₀ L m news s Q E B F X N T hk hdp hun hpre hret
  obtain ⟨⟨lo1, o1, xs1, hm1, T1⟩, ⟨lo2, o2, xs2, hm2, T2⟩, hsm, hzo, hzt⟩ := hpre
  obtain ⟨es1, ep1, r1, e1, n1, k1, v1⟩ := id T1
  obtain ⟨es2, ep2, r2, e2, n2, k2, v2⟩ := id T2
  refine wpAny_call ?_
  k_dflt ktr_enter
  k_steps
  rename_i g' L' _ FG' B' X' T' D h1 oD lD loD _ _ hiD _ _ V h3 F3 N3 lV
  have TD : TabO PG w [] oD [] [] := TabO.empty (by assumption)
  refine rd_forItems (by rfl) F3 (fun p hp => N3 p (List.mem_cons_of_mem _ hp)) ⟨_, (N3 _ (List.mem_cons_self)).1, rfl, rfl⟩ (List.mem_cons_of_mem _ hm1) r1 fun I lI => ?_
  rw [itemsOf_tab e1]
  refine rest_items (fun r m nx => ∃ ys kd ky tb tl, r = ys.map itm ∧ ko = kd ++ ky ∧ ValsAre ys ky ∧ (∀ x ∈ ys, KeyL PG w news x.2.1 x.1) ∧ nx = tl ++ news ∧ (∀ q ∈ news, ∀ p ∈ tl, q.1 < p.1) ∧ TabL PG w nx tb (timesAll kd kt bound) ∧
      m (Str.ofString "table") = some (.ref tb) ∧ m (Str.ofString "other") = some (.ref ta) ∧ m (Str.ofString "bound") = some (.int bound bt) ∧ (timesAll kd kt bound).length + 64 * ky.length ≤ 4096)
    (fun r m nx ⟨_, _, _, _, _, _, _, _, _, e, _⟩ => e ▸ List.mem_append_right _ hm1) ?turn ?done _ _ _
    ⟨xs1, [], ko, D, [(D, oD)], rfl, rfl, v1, fun x hx => T1.key hx, rfl, fun q hq p hp => by rw [List.mem_singleton.mp hp]; exact lD q hq, ⟨loD, oD, [], List.mem_cons_self, TD.mono fun p hp => (nomatch hp)⟩, rfl, rfl, rfl, by simp only [timesAll, List.foldl_nil, List.length_nil]; omega⟩ (ne_of_lts lI)
  case turn =>
    rintro e r m nx v h tk oI ⟨ys, kd, ky, tb, tl, e0, ek, hv, hkeys, rfl, ord, TL, hmT, hmO, hmB, hpot⟩ off hc hvis F N
    cases hv with
    | nil => cases e0
    | @cons n a' vv t ys ky hv =>
      rw [List.map_cons] at e0
      injection e0 with e0 e0'
      subst e0
      obtain ⟨Tt, t', rfl, hTt⟩ := hvis
      have K' : KeyL PG w news a' n := hkeys (n, a', .int vv t) List.mem_cons_self
      replace F := fr_pin3 F hmT hmO hmB
      replace hTt : IsTup h Tt #[.ref a', .int vv t] := hTt
      have hm2' : (ta, o2) ∈ tl ++ news := List.mem_append_right _ hm2
      k_steps
      rename_i V2 h5 F5 N5 lV2
      have TL2 := TL
      refine rd_forItems (by rfl) F5 (fun p hp => N5 p (List.mem_cons_of_mem _ hp)) ⟨_, (N5 _ (List.mem_cons_self)).1, rfl, rfl⟩ (List.mem_cons_of_mem _ hm2') r2 fun I2 lI2 => ?_
      rw [itemsOf_tab e2]
      refine rest_items (fun r m nx => ∃ ys kd2 ky2 tb tl2, r = ys.map itm ∧ kt = kd2 ++ ky2 ∧ ValsAre ys ky2 ∧ (∀ x ∈ ys, KeyL PG w news x.2.1 x.1) ∧ nx = tl2 ++ ((I, oI) :: (tl ++ news)) ∧ (∀ p ∈ tl2, (∀ q ∈ (I, oI) :: (tl ++ news), q.1 < p.1)) ∧ TabL PG w nx tb (timesIn n vv bound (timesAll kd kt bound) kd2) ∧
          m (Str.ofString "table") = some (.ref tb) ∧ m (Str.ofString "other") = some (.ref ta) ∧ m (Str.ofString "bound") = some (.int bound bt) ∧ m (Str.ofString "word") = some (.ref a') ∧ m (Str.ofString "often") = some (.int vv t) ∧
          (timesIn n vv bound (timesAll kd kt bound) kd2).length + ky2.length + 64 * ky.length ≤ 4096)
        (fun r m nx ⟨_, _, _, _, _, _, _, _, _, e, _⟩ => e ▸ List.mem_append_right _ (List.mem_cons_of_mem _ hm2')) ?turn2 ?done2 _ _ _
        ⟨xs2, [], kt, tb, [], rfl, rfl, v2, fun x hx => T2.key hx, rfl, fun p hp => (nomatch hp), TL.mono fun p hp => List.mem_cons_of_mem _ hp, rfl, rfl, rfl, rfl, rfl, by simp only [timesIn, List.foldl_nil]; rw [List.length_cons] at hpot; omega⟩ (ne_of_lts lI2)
      case turn2 =>
        rintro e2 r2 m2 nx2 v2' h2 tk2 oI2 ⟨ys2, kd2, ky2, tb2, tl2, e02, ek2, hv2, hkeys2, rfl, ord2, TL2, hmT2, hmO2, hmB2, hmW2, hmV2, hpot2⟩ off2 hc2 hvis2 F2 N2
        cases hv2 with
        | nil => cases e02
        | @cons n2 a2 vv2 t2 ys2 ky2 hv2 =>
          rw [List.map_cons] at e02
          injection e02 with e02 e02'
          subst e02
          obtain ⟨Tt2, t2', rfl, hTt2⟩ := hvis2
          have K2' : KeyL PG w news a2 n2 := hkeys2 (n2, a2, .int vv2 t2) List.mem_cons_self
          replace F2 := fr_pin (fr_pin4 F2 hmT2 hmB2 hmW2 hmV2) (x := Str.ofString "other") (v := .ref ta) hmO2
          replace hTt2 : IsTup h2 Tt2 #[.ref a2, .int vv2 t2] := hTt2
          have hsv := hsm (n, vv) (by rw [ek]; simp)
          have hsv1 : -1000000 ≤ vv := hsv.1
          have hsv2 : vv ≤ 1000000 := hsv.2
          by_cases hle : n + n2 ≤ bound
          · k_steps
            rename_i dS _ _ ldS loS _ _ _ kA _ lkA h6 oS xsS F6 N6 T6
            obtain ⟨oK, N6, T6⟩ : ∃ oK, News g' L' h6 ((kA, oK) :: (dS, oS) :: (I2, oI2) :: (tl2 ++ (I, oI) :: (tl ++ news))) ∧ TabO PG w ((kA, oK) :: (dS, oS) :: (I2, oI2) :: (tl2 ++ (I, oI) :: (tl ++ news))) oS xsS [(n + n2, vv * vv2)] := ⟨_, N6, T6⟩
            have lkA' : ∀ p ∈ (dS, oS) :: (I2, oI2) :: (tl2 ++ (I, oI) :: (tl ++ news)), p.1 < kA := ktn_ltOf (show AllLt kA ((dS, oS) :: (I2, oI2) :: (tl2 ++ (I, oI) :: (tl ++ news))) from lkA)
            refine Hold.mk ?_
            have lenT : (timesIn n vv bound (timesAll kd kt bound) kd2).length ≤ sizeLine := by rw [sizeLine_eq]; omega
            refine (add_spec w mean mg mb tb2 dS (timesIn n vv bound (timesAll kd kt bound) kd2) (n + n2) (vv * vv2)) _ _ _ _ _ _ _ _ _ _ _ _ _ _ _ _ _ _ B' F6 X' N6 T' rfl (by ktr_room) (by ktr_units)
              ⟨TL2.mono (by intro p hp; kcf_m), ⟨loS, oS, xsS, by k_mem, T6⟩, lenT⟩ ?_
            rintro r7 tl3 h7 tk7 F7 N7 ord7 ⟨d7, rfl, TL7⟩
            clear F6 N6
            k_steps
            rename_i h8 F8 N8
            have mem : ∀ p ∈ (I2, oI2) :: ((tl3 ++ (kA, oK) :: (dS, oS) :: tl2) ++ ((I, oI) :: (tl ++ news))), p ∈ tl3 ++ (kA, oK) :: (dS, oS) :: (I2, oI2) :: (tl2 ++ (I, oI) :: (tl ++ news)) := by
              intro p hp
              simp only [List.mem_append, List.mem_cons] at hp ⊢
              grind
            have hnew : ∀ p ∈ tl3 ++ (kA, oK) :: (dS, oS) :: tl2, ∀ q ∈ (I, oI) :: (tl ++ news), q.1 < p.1 := fun p hp q hq => by
              have hq2 : q ∈ tl2 ++ (I, oI) :: (tl ++ news) := List.mem_append_right _ hq
              rcases List.mem_append.mp hp with hp | hp
              · exact ord7 q (List.mem_cons_of_mem _ (List.mem_cons_of_mem _ (List.mem_cons_of_mem _ hq2))) p hp
              · rcases List.mem_cons.mp hp with rfl | hp
                · exact lkA' q (List.mem_cons_of_mem _ (List.mem_cons_of_mem _ hq2))
                · rcases List.mem_cons.mp hp with rfl | hp
                  · exact ldS q (List.mem_cons_of_mem _ hq2)
                  · exact ord2 p hp q hq
            have off3 : ∀ p ∈ (tl3 ++ (kA, oK) :: (dS, oS) :: tl2) ++ ((I, oI) :: (tl ++ news)), p.1 ≠ I2 := fun p hp => by
              rcases List.mem_append.mp hp with hp | hp
              · rcases List.mem_append.mp hp with hp | hp
                · exact Nat.ne_of_gt (ord7 (I2, oI2) (by simp) p hp)
                · rcases List.mem_cons.mp hp with rfl | hp
                  · exact Nat.ne_of_gt (lkA' (I2, oI2) (by simp))
                  · rcases List.mem_cons.mp hp with rfl | hp
                    · exact Nat.ne_of_gt (ldS (I2, oI2) (by simp))
                    · exact off2 p (List.mem_append_left _ hp)
              · exact off2 p (List.mem_append_right _ hp)
            refine ⟨rfl, _, _, _, (tl3 ++ (kA, oK) :: (dS, oS) :: tl2) ++ ((I, oI) :: (tl ++ news)), rfl, F8, fun p hp => N8 p (mem p hp), off3, ys2, kd2 ++ [(n2, vv2)], ky2, d7, tl3 ++ (kA, oK) :: (dS, oS) :: tl2, e02', by rw [ek2, List.append_assoc]; rfl, hv2, fun x hx => hkeys2 x (List.mem_cons_of_mem _ hx), rfl, hnew, ?_, rfl, rfl, rfl, rfl, rfl, ?_⟩
            · rw [timesIn_snoc, if_pos hle]
              refine TL7.drop (I := I2) hc2 (by decide) (by decide) fun p hp => ?_
              simp only [List.mem_append, List.mem_cons] at hp ⊢
              grind
            · rw [timesIn_snoc, if_pos hle]
              have q := addT_len (timesIn n vv bound (timesAll kd kt bound) kd2) (n + n2) (vv * vv2)
              rw [List.length_cons] at hpot2
              omega
          · k_steps
            rename_i F8 N8 _ _ _
            refine ⟨rfl, _, _, _, tl2 ++ ((I, oI) :: (tl ++ news)), rfl, F8, N8, off2, ys2, kd2 ++ [(n2, vv2)], ky2, tb2, tl2, e02', by rw [ek2, List.append_assoc]; rfl, hv2, fun x hx => hkeys2 x (List.mem_cons_of_mem _ hx), rfl, ord2, ?_, rfl, rfl, rfl, rfl, rfl, ?_⟩
            · rw [timesIn_snoc, if_neg hle]; exact TL2
            · rw [timesIn_snoc, if_neg hle]
              rw [List.length_cons] at hpot2
              omega
      case done2 =>
        rintro m2 nx2 h2 tk2 ⟨ys2, kd2, ky2, tb2, tl2, e02, ek2, hv2, hkeys2, rfl, ord2, TL2, hmT2, hmO2, hmB2, hmW2, hmV2, hpot2⟩ off2 F2 N2
        have hys : ys2 = [] := List.map_eq_nil_iff.mp e02.symm
        subst hys
        cases hv2
        rw [List.append_nil] at ek2
        subst ek2
        k_steps
        refine ⟨rfl, _, _, m2, (tl2 ++ tl) ++ news, rfl, F2, fun p hp => N2 p ?_, fun p hp => ?_, ys, kd ++ [(n, vv)], ky, tb2, tl2 ++ tl, e0', by rw [ek, List.append_assoc]; rfl, hv, fun x hx => hkeys x (List.mem_cons_of_mem _ hx), rfl, fun q hq p hp => ?_, ?_, hmT2, hmO2, hmB2, ?_⟩
        · simp only [List.mem_append, List.mem_cons] at hp ⊢
          grind
        · simp only [List.mem_append] at hp
          rcases hp with (hp | hp) | hp
          · exact Nat.ne_of_gt (ord2 p hp (I, oI) List.mem_cons_self)
          · exact off p (List.mem_append_left _ hp)
          · exact off p (List.mem_append_right _ hp)
        · rcases List.mem_append.mp hp with hp | hp
          · exact ord2 p hp q (List.mem_cons_of_mem _ (List.mem_append_right _ hq))
          · exact ord q hq p hp
        · rw [timesAll_snoc]
          refine TL2.drop (I := I) hc (by decide) (by decide) fun p hp => ?_
          simp only [List.mem_append, List.mem_cons] at hp ⊢
          grind
        · rw [timesAll_snoc]
          simp only [List.length_nil] at hpot2
          omega
  case done =>
    rintro m1 nx h tk ⟨ys, kd, ky, tb, tl, e0, ek, hv, hkeys, rfl, ord, TL, hmT, hmO, hmB, hpot⟩ off F N
    have hys : ys = [] := List.map_eq_nil_iff.mp e0.symm
    subst hys
    cases hv
    rw [List.append_nil] at ek
    subst ek
    replace F := fr_pin F hmT
    obtain ⟨loT, oT, xsT, hmT', TT⟩ := id TL
    obtain ⟨esT, epT, rT, eT, nT, kT, vT⟩ := id TT
    k_steps
    refine Hold.mk ?_
    refine bk_items F (by with_unfolding_all rfl) (by decide) (by rfl) (by decide) (by rfl) (by rfl) (by decide) ?_
    k_steps
    rename_i V h2 F2 N2 lV2
    refine ⟨V, tb, oT, esT, epT, tl ++ news, fun i ys nx => ∃ tl', nx = tl' ++ (tl ++ news) ∧ (∀ q ∈ tl ++ news, ∀ p ∈ tl', q.1 < p.1) ∧ PairsL PG w nx ys (((timesAll ko kt bound).take i).filter fun p => decide (p.2 ≠ 0)), rfl, rfl, F2, fun p hp => N2 p (List.mem_cons_of_mem _ hp), ⟨_, (N2 _ List.mem_cons_self).1, rfl, rfl⟩, hmT', rT, ?_,
      ⟨[], rfl, fun _ _ _ hp => (nomatch hp), .nil⟩, ?_, ?_⟩
    · have q := vT.length
      have q2 : esT.size = xsT.length := by rw [← Array.length_toList, eT, List.length_map]
      rw [sizeLine_eq]; omega
    · rintro I2 lI2 i e ys nx own C oC D2 m2 h3 tk3 E' he ⟨tl', rfl, ord', P⟩ ap hC hx1 hx2 F3 N3 hCD hI2C hyl
      obtain ⟨k, a2, v, t2, hmx, hkv, ek1, ek2⟩ := tab_at eT vT he
      rw [ek1] at hx1
      rw [ek2] at hx2
      unfold ElTurn
      refine wpAny_tests_one ?_
      have htk : ((timesAll ko kt bound).take (i + 1)) = ((timesAll ko kt bound).take i) ++ [(k, v)] := by rw [List.take_add_one, hkv]; rfl
      k_steps
      · rename_i hv0 T4 h4 F4 N4 lT4
        obtain ⟨o4, N4, hc4, hd4⟩ : ∃ o4, News g' L' h4 ((T4, o4) :: (own ++ (C, oC) :: (D2, lst ys) :: (tl' ++ (tl ++ news)))) ∧ o4.cls = .type "tuple" ∧ o4.data = .seq #[.ref a2, .int v t2] 0 := ⟨_, N4, rfl, rfl⟩
        have lI2T : I2 < T4 := Nat.lt_trans hI2C (lT4 (C, oC) (by simp))
        refine ⟨_, _, (T4, o4) :: (tl' ++ (tl ++ news)), rfl, F4, fun p hp => N4 p ?_, fun p hp => ?_, (T4, o4) :: tl', rfl, fun q hq p hp => ?_, ?_⟩
        · simp only [List.mem_append, List.mem_cons] at hp ⊢
          grind
        · rcases List.mem_cons.mp hp with rfl | hp
          · have q1 := lT4 (C, oC) (by simp)
            have q2 := lT4 (D2, lst ys) (by simp)
            exact ⟨fun q => Nat.ne_of_gt lI2T (List.mem_singleton.mp q), Nat.ne_of_gt q1, Nat.ne_of_gt q2⟩
          · exact ap p hp
        · rcases List.mem_cons.mp hp with rfl | hp
          · exact lT4 q (by simp only [List.mem_append, List.mem_cons] at hq ⊢; grind)
          · exact ord' q hq p hp
        · rw [htk, List.filter_append]
          have hf : [(k, v)].filter (fun p => decide (p.2 ≠ 0)) = [(k, v)] := by simp [hv0]
          rw [hf]
          exact (P.mono fun p hp => List.mem_cons_of_mem _ hp).append (.cons List.mem_cons_self hc4 hd4 ((TT.key hmx).mono fun p hp => List.mem_cons_of_mem _ (List.mem_append_right _ hp)) .nil)
      · rename_i hv0
        refine ⟨h3, _, tl' ++ (tl ++ news), rfl, F3, N3, ap, tl', rfl, ord', ?_⟩
        rw [htk, List.filter_append]
        have hf : [(k, v)].filter (fun p => decide (p.2 ≠ 0)) = [] := by simp [hv0]
        rw [hf, List.append_nil]
        exact P
    · rintro D2 h2 tk2 ys nx F3 N3 off3 ⟨tl', rfl, ord', P⟩
      k_steps
      have hsz : esT.size = (timesAll ko kt bound).length := by rw [← vT.length, ← Array.length_toList, eT, List.length_map]
      rw [hsz, List.take_length] at P
      refine Hold.mk ?_
      have hnd : ((timesF ko kt bound).map (·.1)).Nodup := TT.nodup.sublist (List.Sublist.map _ List.filter_sublist)
      have hlen : (timesF ko kt bound).length ≤ sizeLine := by
        have q : (timesF ko kt bound).length ≤ (timesAll ko kt bound).length := List.length_filter_le _ _
        rw [sizeLine_eq]; omega
      have P' : PairsL PG w ((D2, lst ys) :: (tl' ++ (tl ++ news))) ys (timesF ko kt bound) := P.mono fun p hp => List.mem_cons_of_mem _ hp
      refine d_tab (by have hcL9 := cLine_is; simp only [units_in1, units_deeper, Around.mark_units, units_caller]; (try dsimp only [ktrTop]); omega) rfl F3 N3 (Top.nolimit T') List.mem_cons_self P' hnd hlen fun D3 oD3 h4 tk4 xs4 F4 N4 l4 lo4 T4 => ?_
      k_steps
      rename_i kF kN _ _
      have hdrop : ∀ p ∈ (D3, oD3) :: (D2, lst ys) :: (tl' ++ (tl ++ news)), p ∈ ((D3, oD3) :: (tl' ++ tl)) ++ news ∨ p = (D2, lst ys) := fun p hp => by
        simp only [List.mem_append, List.mem_cons] at hp ⊢
        grind
      have hback : ∀ p ∈ ((D3, oD3) :: (tl' ++ tl)) ++ news, p ∈ (D3, oD3) :: (D2, lst ys) :: (tl' ++ (tl ++ news)) := fun p hp => by
        simp only [List.mem_append, List.mem_cons] at hp ⊢
        grind
      refine hret _ ((D3, oD3) :: (tl' ++ tl)) _ _ kF (fun p hp => kN p (hback p hp)) (fun q hq p hp => ?_) ⟨D3, rfl, TabL.drop (I := D2) (oI := lst ys) (wn := "list") ⟨lo4, oD3, xs4, List.mem_cons_self, T4.mono fun p hp => List.mem_cons_of_mem _ hp⟩ rfl (by decide) (by decide) hdrop⟩
      rcases List.mem_cons.mp hp with rfl | hp
      · exact l4 q (by simp only [List.mem_append, List.mem_cons]; grind)
      · rcases List.mem_append.mp hp with hp | hp
        · exact ord' q (List.mem_append_right _ hq) p hp
        · exact ord q hq p hp

end Mine

namespace Mine
open PySem.Calls PyProof.V PySem.Spec PyProof.Rows.LCg
local macro_rules | `(tactic| k_mem) => `(tactic| assumption)
local macro_rules | `(tactic| k_all) => `(tactic| first | exact ne_of_lts (by assumption) | exact ne_of_allLt (by assumption) | assumption)
local macro_rules | `(tactic| walk_at "exec For Tuple Call cons nil") => `(tactic| (k_here; (rename Fr _ _ _ _ => lF'); (with_unfolding_all refine' For_turns lF' ?_; k_whole)))
local macro_rules | `(tactic| walk_at "getMethod ref") => `(tactic| (k_here; k_dflt (first
  | ((with_reducible show wpAny _ _ (getMethod (Value.ref _) (Str.ofString "items") _) _ _ _); (refine' rdN_method PySem.F.slot_dict_items PySem.F.type_dict_items ?N ?p ?r ?_; (case N => k_asm); (case p => k_mem); (case r => k_asm)))
  | ((with_reducible show wpAny _ _ (getMethod (Value.ref _) (Str.ofString "values") _) _ _ _); (refine' rdN_method PySem.F.slot_dict_values PySem.F.type_dict_values ?N ?p ?r ?_; (case N => k_asm); (case p => k_mem); (case r => k_asm)))
  | ((with_reducible show wpAny _ _ (getMethod (Value.ref _) (Str.ofString "get") _) _ _ _); (refine' rdN_method PySem.F.slot_dict_get PySem.F.type_dict_get ?N ?p ?r ?_; (case N => k_asm); (case p => k_mem); (case r => k_asm))))))
local macro_rules | `(tactic| walk_at "call builtin:dict.items") => `(tactic| (k_here; k_dflt (refine' rdN_items ?F ?N ?p ?r ?lo ?_; (case F => k_asm); (case N => k_asm); (case p => k_mem); (case r => k_asm); (case lo => k_asm)); intro V' h' F' N' l1; (try k_sweep)))
local macro_rules | `(tactic| walk_at "call builtin:dict.values") => `(tactic| (k_here; k_dflt (refine' rdN_values ?F ?N ?p ?r ?lo ?_; (case F => k_asm); (case N => k_asm); (case p => k_mem); (case r => k_asm); (case lo => k_asm)); intro V' h' F' N' l1; (try k_sweep)))
local macro_rules | `(tactic| walk_at "setItem ref ref") => `(tactic| (k_here; k_dflt (refine' tb_setItem ?u ?F ?N ?U ?s ?T ?K ?z ?_; (case F => k_asm); (case N => k_asm); (case T => k_asm); (case U => k_updF); (case K => k_asm); (case z => k_asm); (case s => (intro p hp; kcf_m)); (case u => (have hcL9 := cLine_is; simp only [units_in1, units_deeper, Around.mark_units, units_caller]; (try dsimp only [ktrTop]); omega))); intro h' o' F' N' T'; (try dsimp only at N'); (try k_sweep)))
local macro_rules | `(tactic| walk_at "compareOp In ref ref") => `(tactic| (k_here; k_dflt (first
  | (refine' tb_inB true ?b ?u ?N ?p ?s ?lo ?T ?K ?_; (case b => with_reducible assumption); (case N => k_asm); (case p => k_mem); (case lo => k_asm); (case T => k_asm); (case K => k_asm); (case s => (intro p hp; kcf_m)); (case u => (have hcL9 := cLine_is; simp only [units_in1, units_deeper, Around.mark_units, units_caller]; (try dsimp only [ktrTop]); omega)))
  | (refine' tb_inB false ?b ?u ?N ?p ?s ?lo ?T ?K ?_; (case b => with_reducible assumption); (case N => k_asm); (case p => k_mem); (case lo => k_asm); (case T => k_asm); (case K => k_asm); (case s => (intro p hp; kcf_m)); (case u => (have hcL9 := cLine_is; simp only [units_in1, units_deeper, Around.mark_units, units_caller]; (try dsimp only [ktrTop]); omega))))))
local macro_rules | `(tactic| walk_at "getItem ref ref") => `(tactic| (k_here; k_dflt (refine' tb_getItem ?u ?N ?p ?s ?T ?K ?v ?_; (case v => with_reducible assumption); (case N => k_asm); (case p => k_mem); (case T => k_asm); (case K => k_asm); (case s => (intro p hp; kcf_m)); (case u => (have hcL9 := cLine_is; simp only [units_in1, units_deeper, Around.mark_units, units_caller]; (try dsimp only [ktrTop]); omega)); intro t')))

local macro_rules | `(tactic| walk_at "call ref") => `(tactic| (k_here; refine Hold.out ?_))
local macro_rules | `(tactic| walk_at "call type:dict") => `(tactic| (k_here; refine Hold.out ?_))
local macro_rules | `(tactic| walk_at "eval ListComp") => `(tactic| (k_here; refine Hold.out ?_))
local macro_rules | `(tactic| walk_at "eval Dict") => `(tactic| (k_here; k_dflt (refine' dk_dict ?F ?N (TopRead.nolimit (by k_asm)) ?_; (case F => k_asm); (case N => k_asm); k_whole); intro d' o' h' F' N' l1 lo' T'; (try k_sweep)))
local macro_rules | `(tactic| walk_at "subscriptTail") => `(tactic| (k_here; (with_reducible show wpAny _ _ (subscriptTail _ _ (Value.ref _) (Value.int 1 _)) _ _ _); k_dflt (refine' key_item ?N ?K ?_; (case K => k_asm); (case N => (refine fun p hp => (by assumption : News _ _ _ _) p ?_; kcf_m)); intro t')))
local macro_rules | `(tactic| walk_at "dictSet ref int") => `(tactic| (k_here; k_dflt (refine' dk_store ?u ?F ?N ?U ?T ?K ?_; (case F => k_asm); (case N => k_asm); (case T => k_asm); (case U => k_updF); (case K => exact KeyL.made (by k_mem)); (case u => (have hcL9 := cLine_is; simp only [units_in1, units_deeper, Around.mark_units, units_caller]; (try dsimp only [ktrTop]); omega))); intro h' o' xs' F' N' T'; (try dsimp only at N' T'); (try k_sweep)))
local macro_rules | `(tactic| walk_at "newTuple") => `(tactic| (k_here; k_dflt (refine' kup_newTuple ?F ?N ?_ ?z; (case F => k_asm); (case N => k_asm); (case z => kmk_size)); intro D' h' F' N' l1; (try k_lt l1); (try k_sweep)))

local macro_rules | `(tactic| walk_at "eval Dict") => `(tactic| (k_here; (with_reducible show wpAny _ _ (eval (PySem.Expr.Dict [_, _] [_, _] _) _) _ _ _); k_dflt (refine' dk_dict2 ?F ?N (TopRead.nolimit (by k_asm)) ?_; (case F => k_asm); (case N => k_asm); k_whole); intro d' o' h' F' N' l1 lo' T'; (try k_sweep)))
local macro_rules | `(tactic| walk_at "dictSet ref int") => `(tactic| (k_here; k_dflt (refine' dk_storeG ?u ?F ?N ?U ?s ?T ?K ?z ?_; (case F => k_asm); (case N => k_asm); (case T => k_asm); (case U => k_updF); (case K => exact KeyL.made (by k_mem)); (case z => decide +kernel); (case s => (intro p hp; first | assumption | kcf_m | cases hp)); (case u => (have hcL9 := cLine_is; simp only [units_in1, units_deeper, Around.mark_units, units_caller]; (try dsimp only [ktrTop]); omega))); intro h' o' xs' F' N' T'; (try dsimp only at N' T'); (try k_sweep)))
local macro_rules | `(tactic| walk_at "pyIter ref") => `(tactic| (k_here; refine Hold.out ?_))

noncomputable def lessN (bound : Int) : Nat → List (Int × Int)
  | 0 => [(0, 1)]
  | i + 1 => timesF (lessN bound i) [(0, 1), (1 + (i : Int), -1)] bound
noncomputable def LessOk (bound : Int) : Prop := 3 ≤ bound ∧ bound ≤ 8 ∧ ∀ i, i ≤ bound.toNat → Small (lessN bound i) ∧ (lessN bound i).length ≤ 64

theorem reset_A3 : True := by
  w_top off
  trivial
theorem less_spec (w : World) (mean : ExcName → Option Value) (mg mb : Str → Option Value) (bound : Int) (bt : Tok) :
    Spc w mean mg mb 58 8 70 [.int bound bt] (fun _ => LessOk bound) (fun news r => ∃ d, r = .ref d ∧ TabL PG w news d (lessN bound bound.toNat)) := by
  have kf : PySem.Challenge.rw_gz0002_01.row.prog = PySem.Challenge.rw_gz0002_01.row.prog ∧ Mine.hd.heap_39 = Mine.hd.heap_39 := by k_fill; exact ⟨rfl, rfl⟩
  clear kf
  intro dp un gd cn cs a ccd cl outer A₀ base h₀ L m news s Q E B F X N T hk hdp hun hpre hret
  obtain ⟨b3, b8, hall⟩ := hpre
  refine wpAny_call ?_
  k_dflt ktr_enter
  k_steps
  rename_i g' L' _ FG' B' X' T' _ d o0 _ ld lod _ D1 _ l1 _ o1 xs1 T1 h1 F1 N1 h2 _ t1 u1 v1 R F2 N2 K2
  obtain ⟨oD, N2, T1⟩ : ∃ oD, News g' L' h2 ((D1, oD) :: (d, o1) :: news) ∧ TabO PG w ((D1, oD) :: (d, o1) :: news) o1 xs1 [(0, 1)] := ⟨_, N2, T1⟩
  have lD1 : ∀ p ∈ (d, o1) :: news, p.1 < D1 := ktn_ltOf (show AllLt D1 ((d, o1) :: news) from l1)
  refine Hold.mk ?_
  refine iter_rangeUnr (n := bound.toNat) (by rfl) R (small_one (by omega) (by omega) (by omega) (by omega)) ((rangeSize_nat _ _).trans (congrArg Nat.cast (congrArg Int.toNat (show bound + 1 - 1 = bound by omega)))) F2 N2 fun I lI => ?_
  refine rest_range (fun i m nx => ∃ tb tl, nx = tl ++ news ∧ (∀ q ∈ news, ∀ p ∈ tl, q.1 < p.1) ∧ TabL PG w nx tb (lessN bound i) ∧ m (Str.ofString "table") = some (.ref tb) ∧ m (Str.ofString "bound") = some (.int bound bt)) ?turn ?done _ 0 _ _ (Nat.add_zero _)
    ⟨d, [(D1, oD), (d, o1)], rfl, fun q hq p hp => ?_, ⟨lod, o1, xs1, by simp, T1⟩, rfl, rfl⟩ (ne_of_lts lI)
  case turn =>
    rintro i m nx t h tk hi ⟨tb, tl, rfl, ord, TL, hmT, hmB⟩ off F N
    replace F := fr_pin2 F (x := Str.ofString "table") (v := .ref tb) (x2 := Str.ofString "bound") (v2 := .int bound bt) (by rw [if_neg (by decide)]; exact hmT) (by rw [if_neg (by decide)]; exact hmB)
    k_steps
    rename_i d' _ _ ld' lod' _ Da' _ la' Db' _ lb' _ _ _ _ h6 o6 xs6 F6 N6 T6
    have ep : putT (putT [] 0 1) (1 + (i : Int)) (0 - 1) = [(0, 1), (1 + (i : Int), -1)] := getT_append_none (l := [(0, 1)]) (getT_none_of (by simp; omega))
    rw [ep] at T6
    obtain ⟨oA, oB, N6, T6⟩ : ∃ oA oB, News g' L' h6 ((Db', oB) :: (Da', oA) :: (d', o6) :: (I, itR (1 + ((i + 1 : Nat) : Int)) ((bound.toNat : Int) - ((i + 1 : Nat) : Int))) :: (tl ++ news)) ∧ TabO PG w ((Db', oB) :: (Da', oA) :: (d', o6) :: (I, itR (1 + ((i + 1 : Nat) : Int)) ((bound.toNat : Int) - ((i + 1 : Nat) : Int))) :: (tl ++ news)) o6 xs6 [(0, 1), (1 + (i : Int), -1)] := ⟨_, _, N6, T6⟩
    have lB : ∀ p ∈ (Da', oA) :: (d', o6) :: (I, itR (1 + ((i + 1 : Nat) : Int)) ((bound.toNat : Int) - ((i + 1 : Nat) : Int))) :: (tl ++ news), p.1 < Db' := ktn_ltOf (show AllLt Db' ((Da', oA) :: (d', o6) :: (I, itR (1 + ((i + 1 : Nat) : Int)) ((bound.toNat : Int) - ((i + 1 : Nat) : Int))) :: (tl ++ news)) from lb')
    have lA : ∀ p ∈ (d', o6) :: (I, itR (1 + ((i + 1 : Nat) : Int)) ((bound.toNat : Int) - ((i + 1 : Nat) : Int))) :: (tl ++ news), p.1 < Da' := ktn_ltOf (show AllLt Da' ((d', o6) :: (I, itR (1 + ((i + 1 : Nat) : Int)) ((bound.toNat : Int) - ((i + 1 : Nat) : Int))) :: (tl ++ news)) from la')
    refine Hold.mk ?_
    obtain ⟨hs6, hz6⟩ := hall i (Nat.le_of_lt hi)
    refine (times_spec w mean mg mb tb d' (lessN bound i) [(0, 1), (1 + (i : Int), -1)] bound bt) _ _ _ _ _ _ _ _ _ _ _ _ _ _ _ _ _ _ B' F6 X' N6 T' rfl (by ktr_room) (by ktr_units)
      ⟨TL.mono (by intro p hp; kcf_m), ⟨lod', o6, xs6, by simp, T6⟩, hs6, hz6, by simp⟩ ?_
    rintro r7 tl3 h7 tk7 F7 N7 ord7 ⟨d7, rfl, TL7⟩
    clear F6 N6
    k_steps
    rename_i h8 F8 N8
    refine ⟨_, _, _, (tl3 ++ (Db', oB) :: (Da', oA) :: (d', o6) :: tl) ++ news, rfl, F8, fun p hp => N8 p ?_, fun p hp => ?_, d7, tl3 ++ (Db', oB) :: (Da', oA) :: (d', o6) :: tl, rfl, fun q hq p hp => ?_, ?_, rfl, rfl⟩
    · simp only [List.mem_append, List.mem_cons] at hp ⊢
      grind
    · have q1 := ord7 (I, itR (1 + ((i + 1 : Nat) : Int)) ((bound.toNat : Int) - ((i + 1 : Nat) : Int))) (by simp)
      have q2 := lB (I, itR (1 + ((i + 1 : Nat) : Int)) ((bound.toNat : Int) - ((i + 1 : Nat) : Int))) (by simp)
      have q3 := lA (I, itR (1 + ((i + 1 : Nat) : Int)) ((bound.toNat : Int) - ((i + 1 : Nat) : Int))) (by simp)
      have q4 := ld' (I, itR (1 + ((i + 1 : Nat) : Int)) ((bound.toNat : Int) - ((i + 1 : Nat) : Int))) (by simp)
      simp only [List.mem_append, List.mem_cons] at hp
      rcases hp with (hp | rfl | rfl | rfl | hp) | hp
      · exact Nat.ne_of_gt (q1 p hp)
      · exact Nat.ne_of_gt q2
      · exact Nat.ne_of_gt q3
      · exact Nat.ne_of_gt q4
      · exact off p (List.mem_append_left _ hp)
      · exact off p (List.mem_append_right _ hp)
    · have q1 := ord7 q (by simp [hq])
      have q2 := lB q (by simp [hq])
      have q3 := lA q (by simp [hq])
      have q4 := ld' q (by simp [hq])
      simp only [List.mem_append, List.mem_cons] at hp
      rcases hp with hp | rfl | rfl | rfl | hp
      · exact q1 p hp
      · exact q2
      · exact q3
      · exact q4
      · exact ord q hq p hp
    · refine TL7.drop (I := I) (oI := itR (1 + ((i + 1 : Nat) : Int)) ((bound.toNat : Int) - ((i + 1 : Nat) : Int))) (wn := "range_iterator") rfl (by decide) (by decide) fun p hp => ?_
      simp only [List.mem_append, List.mem_cons] at hp ⊢
      grind
  case done =>
    rintro m nx h tk ⟨tb, tl, rfl, ord, TL, hmT, hmB⟩ off F N
    replace F := fr_pin F hmT
    k_steps
    refine hret _ tl _ _ ?_ ?_ ord ⟨tb, rfl, TL⟩ <;> assumption
  · rcases List.mem_cons.mp hp with rfl | hp
    · exact lD1 q (List.mem_cons_of_mem _ hq)
    · rw [List.mem_singleton.mp hp]; exact ld q hq

end Mine

namespace Mine
open PySem.Calls PyProof.V PySem.Spec PyProof.Rows.LCg
local macro_rules | `(tactic| k_mem) => `(tactic| assumption)
local macro_rules | `(tactic| k_all) => `(tactic| first | exact ne_of_lts (by assumption) | exact ne_of_allLt (by assumption) | assumption)
local macro_rules | `(tactic| walk_at "exec For Tuple Call cons nil") => `(tactic| (k_here; (rename Fr _ _ _ _ => lF'); (with_unfolding_all refine' For_turns lF' ?_; k_whole)))
local macro_rules | `(tactic| walk_at "getMethod ref") => `(tactic| (k_here; k_dflt (first
  | ((with_reducible show wpAny _ _ (getMethod (Value.ref _) (Str.ofString "items") _) _ _ _); (refine' rdN_method PySem.F.slot_dict_items PySem.F.type_dict_items ?N ?p ?r ?_; (case N => k_asm); (case p => k_mem); (case r => k_asm)))
  | ((with_reducible show wpAny _ _ (getMethod (Value.ref _) (Str.ofString "values") _) _ _ _); (refine' rdN_method PySem.F.slot_dict_values PySem.F.type_dict_values ?N ?p ?r ?_; (case N => k_asm); (case p => k_mem); (case r => k_asm)))
  | ((with_reducible show wpAny _ _ (getMethod (Value.ref _) (Str.ofString "get") _) _ _ _); (refine' rdN_method PySem.F.slot_dict_get PySem.F.type_dict_get ?N ?p ?r ?_; (case N => k_asm); (case p => k_mem); (case r => k_asm))))))
local macro_rules | `(tactic| walk_at "call builtin:dict.items") => `(tactic| (k_here; k_dflt (refine' rdN_items ?F ?N ?p ?r ?lo ?_; (case F => k_asm); (case N => k_asm); (case p => k_mem); (case r => k_asm); (case lo => k_asm)); intro V' h' F' N' l1; (try k_sweep)))
local macro_rules | `(tactic| walk_at "call builtin:dict.values") => `(tactic| (k_here; k_dflt (refine' rdN_values ?F ?N ?p ?r ?lo ?_; (case F => k_asm); (case N => k_asm); (case p => k_mem); (case r => k_asm); (case lo => k_asm)); intro V' h' F' N' l1; (try k_sweep)))
local macro_rules | `(tactic| walk_at "setItem ref ref") => `(tactic| (k_here; k_dflt (refine' tb_setItem ?u ?F ?N ?U ?s ?T ?K ?z ?_; (case F => k_asm); (case N => k_asm); (case T => k_asm); (case U => k_updF); (case K => k_asm); (case z => k_asm); (case s => (intro p hp; kcf_m)); (case u => (have hcL9 := cLine_is; simp only [units_in1, units_deeper, Around.mark_units, units_caller]; (try dsimp only [ktrTop]); omega))); intro h' o' F' N' T'; (try dsimp only at N'); (try k_sweep)))
local macro_rules | `(tactic| walk_at "compareOp In ref ref") => `(tactic| (k_here; k_dflt (first
  | (refine' tb_inB true ?b ?u ?N ?p ?s ?lo ?T ?K ?_; (case b => with_reducible assumption); (case N => k_asm); (case p => k_mem); (case lo => k_asm); (case T => k_asm); (case K => k_asm); (case s => (intro p hp; kcf_m)); (case u => (have hcL9 := cLine_is; simp only [units_in1, units_deeper, Around.mark_units, units_caller]; (try dsimp only [ktrTop]); omega)))
  | (refine' tb_inB false ?b ?u ?N ?p ?s ?lo ?T ?K ?_; (case b => with_reducible assumption); (case N => k_asm); (case p => k_mem); (case lo => k_asm); (case T => k_asm); (case K => k_asm); (case s => (intro p hp; kcf_m)); (case u => (have hcL9 := cLine_is; simp only [units_in1, units_deeper, Around.mark_units, units_caller]; (try dsimp only [ktrTop]); omega))))))
local macro_rules | `(tactic| walk_at "getItem ref ref") => `(tactic| (k_here; k_dflt (refine' tb_getItem ?u ?N ?p ?s ?T ?K ?v ?_; (case v => with_reducible assumption); (case N => k_asm); (case p => k_mem); (case T => k_asm); (case K => k_asm); (case s => (intro p hp; kcf_m)); (case u => (have hcL9 := cLine_is; simp only [units_in1, units_deeper, Around.mark_units, units_caller]; (try dsimp only [ktrTop]); omega)); intro t')))

local macro_rules | `(tactic| walk_at "call ref") => `(tactic| (k_here; refine Hold.out ?_))
local macro_rules | `(tactic| walk_at "call type:dict") => `(tactic| (k_here; refine Hold.out ?_))
local macro_rules | `(tactic| walk_at "eval ListComp") => `(tactic| (k_here; refine Hold.out ?_))
local macro_rules | `(tactic| walk_at "eval Dict") => `(tactic| (k_here; k_dflt (refine' dk_dict ?F ?N (TopRead.nolimit (by k_asm)) ?_; (case F => k_asm); (case N => k_asm); k_whole); intro d' o' h' F' N' l1 lo' T'; (try k_sweep)))
local macro_rules | `(tactic| walk_at "subscriptTail") => `(tactic| (k_here; (with_reducible show wpAny _ _ (subscriptTail _ _ (Value.ref _) (Value.int 1 _)) _ _ _); k_dflt (refine' key_item ?N ?K ?_; (case K => k_asm); (case N => (refine fun p hp => (by assumption : News _ _ _ _) p ?_; kcf_m)); intro t')))
local macro_rules | `(tactic| walk_at "dictSet ref int") => `(tactic| (k_here; k_dflt (refine' dk_store ?u ?F ?N ?U ?T ?K ?_; (case F => k_asm); (case N => k_asm); (case T => k_asm); (case U => k_updF); (case K => exact KeyL.made (by k_mem)); (case u => (have hcL9 := cLine_is; simp only [units_in1, units_deeper, Around.mark_units, units_caller]; (try dsimp only [ktrTop]); omega))); intro h' o' xs' F' N' T'; (try dsimp only at N' T'); (try k_sweep)))
local macro_rules | `(tactic| walk_at "newTuple") => `(tactic| (k_here; k_dflt (refine' kup_newTuple ?F ?N ?_ ?z; (case F => k_asm); (case N => k_asm); (case z => kmk_size)); intro D' h' F' N' l1; (try k_lt l1); (try k_sweep)))

local macro_rules | `(tactic| walk_at "eval Dict") => `(tactic| (k_here; (with_reducible show wpAny _ _ (eval (PySem.Expr.Dict [_, _] [_, _] _) _) _ _ _); k_dflt (refine' dk_dict2 ?F ?N (TopRead.nolimit (by k_asm)) ?_; (case F => k_asm); (case N => k_asm); k_whole); intro d' o' h' F' N' l1 lo' T'; (try k_sweep)))
local macro_rules | `(tactic| walk_at "dictSet ref int") => `(tactic| (k_here; k_dflt (refine' dk_storeG ?u ?F ?N ?U ?s ?T ?K ?z ?_; (case F => k_asm); (case N => k_asm); (case T => k_asm); (case U => k_updF); (case K => exact KeyL.made (by k_mem)); (case z => decide +kernel); (case s => (intro p hp; first | assumption | kcf_m | cases hp)); (case u => (have hcL9 := cLine_is; simp only [units_in1, units_deeper, Around.mark_units, units_caller]; (try dsimp only [ktrTop]); omega))); intro h' o' xs' F' N' T'; (try dsimp only at N' T'); (try k_sweep)))
local macro_rules | `(tactic| walk_at "pyIter ref") => `(tactic| (k_here; refine Hold.out ?_))

local macro_rules | `(tactic| walk_at "eval ListComp") => `(tactic| (k_here; k_dflt (refine ListComp_U (F₀ := by k_asm) (by with_unfolding_all rfl) (by decide) (by rfl) (by decide) (by rfl) ?_)))
local macro_rules | `(tactic| walk_at "CompSrc") => `(tactic| (k_here; refine Hold.out ?_))
local macro_rules | `(tactic| walk_at "call builtin:dict.get") => `(tactic| (k_here; k_dflt (refine' tb_getI ?u ?N ?p ?s ?lo ?T ?K ?_; (case N => k_asm); (case p => k_mem); (case lo => k_asm); (case T => k_asm); (case K => exact KeyL.made (by k_mem)); (case s => (intro p hp; first | assumption | kcf_m)); (case u => (have hcL9 := cLine_is; simp only [units_in1, units_deeper, Around.mark_units, units_caller]; (try dsimp only [ktrTop]); omega)); intro t')))

noncomputable def rowF (kvs : List (Int × Int)) (bound : Int) : List Int := (rangeKs 0 (bound + 1).toNat).map fun k => (getT kvs k).getD 0

theorem reset_A4 : True := by
  w_top off
  trivial
theorem off1_mem {D : Addr} : ∀ {l : List (Addr × Obj)}, Off1 D l → ∀ p ∈ l, p.1 ≠ D
  | [], _, _, h => nomatch h
  | _ :: _, x, p, h => by
    rcases List.mem_cons.mp h with rfl | h
    · exact x.1
    · exact off1_mem x.2 p h

theorem row_spec (w : World) (mean : ExcName → Option Value) (mg mb : Str → Option Value) (ta : Addr) (kt : List (Int × Int)) (bound : Int) (bt : Tok) :
    SpcN w mean mg mb 63 2 20 [.ref ta, .int bound bt] (fun news => TabL PG w news ta kt ∧ 3 ≤ bound ∧ bound ≤ 8) (fun news r => ∃ l, r = .ref l ∧ ListL news l (rowF kt bound)) := by
  have kf : PySem.Challenge.rw_gz0002_01.row.prog = PySem.Challenge.rw_gz0002_01.row.prog ∧ Mine.hd.heap_39 = Mine.hd.heap_39 := by k_fill; exact ⟨rfl, rfl⟩
  clear kf
  intro dp un gd cn cs a ccd cl outer A₀ base h₀ L m news s Q E B F X N T hk hdp hun hpre hret
  obtain ⟨⟨lo1, o1, xs1, hm1, T1⟩, b3, b8⟩ := hpre
  refine wpAny_call ?_
  k_dflt (refine' code_defC ?k1 ?k2 ?k3 ?k4 ?k5 ?kA ?kF ?kK ?k6 ?k7 ?k8 ?k9 ?kB ?kD ?_ ?c2 ?c3 ?c4; (case kA => exact rfl); (case kF => exact rfl); (case kK => assumption); (case k1 => k_asm); (case k2 => k_asm); (case k3 => k_asm); (case k4 => k_asm); (case k5 => k_asm); (case k6 => k_is); (case k7 => k_is); (case k8 => ktr_room); (case k9 => exact BindsTo.of_eq rfl); (case kB => exact rfl); (case kD => decide +kernel); (case c2 => exact rfl); (case c3 => exact rfl); (case c4 => exact rfl); k_whole; intro g' L' h' tk' cells' FG' F' N' Y' B' X' T' l1; k_cells Y'; (try simp only [List.cons_append, List.nil_append] at N'); (try dsimp only); (try k_fold))
  k_steps
  rename_i oC dC _ h2 _ _ _ _ R F2 N2 K2
  obtain ⟨es1, ep1, r1, e1, n1, k1, v1⟩ := id T1
  have dC' : oC.data = .cell (some (.ref ta)) := dC
  clear dC
  refine Hold.mk ?_
  refine CompSrc.range (by rfl) F2 N2 R (small_one (by omega) (by omega) (by omega) (by omega)) (rangeSize_nat _ _) (by rw [PySem.sizeLine_eq]; omega) ?_
  intro g2
  refine kcf_range (fun k => (getT kt k).getD 0) (fun k t I oI C oC2 D m2 ys h tk E' hlo hhi hC hx F N off ne mk => ?_) ?_
  · k_steps
  · unfold KPfDone
    intro ys hi D h4 tk4 F4 N4 O4
    k_steps
    have hi' : IntsAre ys (rowF kt bound) := by simpa [rowF] using hi
    refine hret _ [(D, lst ys)] _ _ (by assumption) (fun p hp => (by assumption : News h₀ L _ ((D, lst ys) :: (L' + 1, oC) :: news)) p ?_) (fun q hq p hp => ?_) ⟨D, rfl, ys, _, List.mem_cons_self, hi'⟩
    · rcases List.mem_cons.mp hp with rfl | hp
      · exact List.mem_cons_self
      · exact List.mem_cons_of_mem _ (List.mem_cons_of_mem _ hp)
    · rw [List.mem_singleton.mp hp]
      exact fun e => off1_mem O4 q (List.mem_cons_of_mem _ hq) e.symm

end Mine

namespace Mine
open PySem.Calls PyProof.V PySem.Spec PyProof.Rows.LCg
local macro_rules | `(tactic| k_mem) => `(tactic| assumption)
local macro_rules | `(tactic| k_all) => `(tactic| first | exact ne_of_lts (by assumption) | exact ne_of_allLt (by assumption) | assumption)
local macro_rules | `(tactic| walk_at "exec For Tuple Call cons nil") => `(tactic| (k_here; (rename Fr _ _ _ _ => lF'); (with_unfolding_all refine' For_turns lF' ?_; k_whole)))
local macro_rules | `(tactic| walk_at "getMethod ref") => `(tactic| (k_here; k_dflt (first
  | ((with_reducible show wpAny _ _ (getMethod (Value.ref _) (Str.ofString "items") _) _ _ _); (refine' rdN_method PySem.F.slot_dict_items PySem.F.type_dict_items ?N ?p ?r ?_; (case N => k_asm); (case p => k_mem); (case r => k_asm)))
  | ((with_reducible show wpAny _ _ (getMethod (Value.ref _) (Str.ofString "values") _) _ _ _); (refine' rdN_method PySem.F.slot_dict_values PySem.F.type_dict_values ?N ?p ?r ?_; (case N => k_asm); (case p => k_mem); (case r => k_asm)))
  | ((with_reducible show wpAny _ _ (getMethod (Value.ref _) (Str.ofString "get") _) _ _ _); (refine' rdN_method PySem.F.slot_dict_get PySem.F.type_dict_get ?N ?p ?r ?_; (case N => k_asm); (case p => k_mem); (case r => k_asm))))))
local macro_rules | `(tactic| walk_at "call builtin:dict.items") => `(tactic| (k_here; k_dflt (refine' rdN_items ?F ?N ?p ?r ?lo ?_; (case F => k_asm); (case N => k_asm); (case p => k_mem); (case r => k_asm); (case lo => k_asm)); intro V' h' F' N' l1; (try k_sweep)))
local macro_rules | `(tactic| walk_at "call builtin:dict.values") => `(tactic| (k_here; k_dflt (refine' rdN_values ?F ?N ?p ?r ?lo ?_; (case F => k_asm); (case N => k_asm); (case p => k_mem); (case r => k_asm); (case lo => k_asm)); intro V' h' F' N' l1; (try k_sweep)))
local macro_rules | `(tactic| walk_at "setItem ref ref") => `(tactic| (k_here; k_dflt (refine' tb_setItem ?u ?F ?N ?U ?s ?T ?K ?z ?_; (case F => k_asm); (case N => k_asm); (case T => k_asm); (case U => k_updF); (case K => k_asm); (case z => k_asm); (case s => (intro p hp; kcf_m)); (case u => (have hcL9 := cLine_is; simp only [units_in1, units_deeper, Around.mark_units, units_caller]; (try dsimp only [ktrTop]); omega))); intro h' o' F' N' T'; (try dsimp only at N'); (try k_sweep)))
local macro_rules | `(tactic| walk_at "compareOp In ref ref") => `(tactic| (k_here; k_dflt (first
  | (refine' tb_inB true ?b ?u ?N ?p ?s ?lo ?T ?K ?_; (case b => with_reducible assumption); (case N => k_asm); (case p => k_mem); (case lo => k_asm); (case T => k_asm); (case K => k_asm); (case s => (intro p hp; kcf_m)); (case u => (have hcL9 := cLine_is; simp only [units_in1, units_deeper, Around.mark_units, units_caller]; (try dsimp only [ktrTop]); omega)))
  | (refine' tb_inB false ?b ?u ?N ?p ?s ?lo ?T ?K ?_; (case b => with_reducible assumption); (case N => k_asm); (case p => k_mem); (case lo => k_asm); (case T => k_asm); (case K => k_asm); (case s => (intro p hp; kcf_m)); (case u => (have hcL9 := cLine_is; simp only [units_in1, units_deeper, Around.mark_units, units_caller]; (try dsimp only [ktrTop]); omega))))))
local macro_rules | `(tactic| walk_at "getItem ref ref") => `(tactic| (k_here; k_dflt (refine' tb_getItem ?u ?N ?p ?s ?T ?K ?v ?_; (case v => with_reducible assumption); (case N => k_asm); (case p => k_mem); (case T => k_asm); (case K => k_asm); (case s => (intro p hp; kcf_m)); (case u => (have hcL9 := cLine_is; simp only [units_in1, units_deeper, Around.mark_units, units_caller]; (try dsimp only [ktrTop]); omega)); intro t')))

local macro_rules | `(tactic| walk_at "call ref") => `(tactic| (k_here; refine Hold.out ?_))
local macro_rules | `(tactic| walk_at "call type:dict") => `(tactic| (k_here; refine Hold.out ?_))
local macro_rules | `(tactic| walk_at "eval ListComp") => `(tactic| (k_here; refine Hold.out ?_))
local macro_rules | `(tactic| walk_at "eval Dict") => `(tactic| (k_here; k_dflt (refine' dk_dict ?F ?N (TopRead.nolimit (by k_asm)) ?_; (case F => k_asm); (case N => k_asm); k_whole); intro d' o' h' F' N' l1 lo' T'; (try k_sweep)))
local macro_rules | `(tactic| walk_at "subscriptTail") => `(tactic| (k_here; (with_reducible show wpAny _ _ (subscriptTail _ _ (Value.ref _) (Value.int 1 _)) _ _ _); k_dflt (refine' key_item ?N ?K ?_; (case K => k_asm); (case N => (refine fun p hp => (by assumption : News _ _ _ _) p ?_; kcf_m)); intro t')))
local macro_rules | `(tactic| walk_at "dictSet ref int") => `(tactic| (k_here; k_dflt (refine' dk_store ?u ?F ?N ?U ?T ?K ?_; (case F => k_asm); (case N => k_asm); (case T => k_asm); (case U => k_updF); (case K => exact KeyL.made (by k_mem)); (case u => (have hcL9 := cLine_is; simp only [units_in1, units_deeper, Around.mark_units, units_caller]; (try dsimp only [ktrTop]); omega))); intro h' o' xs' F' N' T'; (try dsimp only at N' T'); (try k_sweep)))
local macro_rules | `(tactic| walk_at "newTuple") => `(tactic| (k_here; k_dflt (refine' kup_newTuple ?F ?N ?_ ?z; (case F => k_asm); (case N => k_asm); (case z => kmk_size)); intro D' h' F' N' l1; (try k_lt l1); (try k_sweep)))

local macro_rules | `(tactic| walk_at "eval Dict") => `(tactic| (k_here; (with_reducible show wpAny _ _ (eval (PySem.Expr.Dict [_, _] [_, _] _) _) _ _ _); k_dflt (refine' dk_dict2 ?F ?N (TopRead.nolimit (by k_asm)) ?_; (case F => k_asm); (case N => k_asm); k_whole); intro d' o' h' F' N' l1 lo' T'; (try k_sweep)))
local macro_rules | `(tactic| walk_at "dictSet ref int") => `(tactic| (k_here; k_dflt (refine' dk_storeG ?u ?F ?N ?U ?s ?T ?K ?z ?_; (case F => k_asm); (case N => k_asm); (case T => k_asm); (case U => k_updF); (case K => exact KeyL.made (by k_mem)); (case z => decide +kernel); (case s => (intro p hp; first | assumption | kcf_m | cases hp)); (case u => (have hcL9 := cLine_is; simp only [units_in1, units_deeper, Around.mark_units, units_caller]; (try dsimp only [ktrTop]); omega))); intro h' o' xs' F' N' T'; (try dsimp only at N' T'); (try k_sweep)))
local macro_rules | `(tactic| walk_at "pyIter ref") => `(tactic| (k_here; refine Hold.out ?_))

local macro_rules | `(tactic| walk_at "eval ListComp") => `(tactic| (k_here; k_dflt (refine ListComp_U (F₀ := by k_asm) (by with_unfolding_all rfl) (by decide) (by rfl) (by decide) (by rfl) ?_)))
local macro_rules | `(tactic| walk_at "CompSrc") => `(tactic| (k_here; refine Hold.out ?_))
local macro_rules | `(tactic| walk_at "call builtin:dict.get") => `(tactic| (k_here; k_dflt (refine' tb_getI ?u ?N ?p ?s ?lo ?T ?K ?_; (case N => k_asm); (case p => k_mem); (case lo => k_asm); (case T => k_asm); (case K => exact KeyL.made (by k_mem)); (case s => (intro p hp; first | assumption | kcf_m)); (case u => (have hcL9 := cLine_is; simp only [units_in1, units_deeper, Around.mark_units, units_caller]; (try dsimp only [ktrTop]); omega)); intro t')))

local macro_rules | `(tactic| walk_at "exec For Name Call cons nil") => `(tactic| (k_here; (rename Fr _ _ _ _ => lF'); (with_unfolding_all refine' For_turns lF' ?_; k_whole)))
local macro_rules | `(tactic| walk_at "call builtin:len") => `(tactic| (k_here; (with_reducible show wpAny _ _ (call (Value.builtin "len") [Value.ref _]) _ _ _); k_dflt (refine' lst_len ?N ?p ?i ?z ?_; (case N => k_asm); (case p => k_mem); (case i => assumption); (case z => omega))))
local macro_rules | `(tactic| walk_at "call builtin:sum") => `(tactic| (k_here; (with_reducible show wpAny _ _ (call (Value.builtin "sum") [Value.ref _]) _ _ _); k_dflt (refine' lst_sum ?F ?N ?hh ?p ?i ?_; (case F => k_asm); (case N => k_asm); (case hh => rfl); (case p => k_mem); (case i => assumption)); intro h' tk' t' F' N'; (try k_sweep)))
local macro_rules | `(tactic| walk_at "subscriptTail") => `(tactic| (k_here; (with_reducible show wpAny _ _ (subscriptTail _ _ (Value.ref _) (Value.int _ _)) _ _ _); k_dflt (refine' lst_item ?N ?p ?i ?a ?b ?c ?_; (case N => k_asm); (case p => k_mem); (case i => assumption); (case a => omega); (case b => omega); (case c => omega)); intro t'))

noncomputable def otherN (ns : List Int) : Nat → List Int
  | 0 => [1]
  | i + 1 => otherN ns i ++ [0 - ((rangeKs 1 (i + 1)).map fun k => ns.getD k.toNat 0 * (otherN ns i).getD ((1 + (i : Int)) - k).toNat 0).sum]
noncomputable def SmallL (l : List Int) : Prop := ∀ v ∈ l, -1000000 ≤ v ∧ v ≤ 1000000
noncomputable def OtherOk (ns : List Int) : Prop := 2 ≤ ns.length ∧ ns.length ≤ 9 ∧ SmallL ns ∧ ∀ i, i < ns.length → SmallL (otherN ns i)

theorem reset_A5 : True := by
  w_top off
  trivial
theorem otherN_len (ns : List Int) : ∀ i, (otherN ns i).length = i + 1
  | 0 => rfl
  | i + 1 => by rw [otherN, List.length_append, otherN_len ns i]; rfl
theorem smallL_getD {l : List Int} (h : SmallL l) (j : Nat) : -1000000 ≤ l.getD j 0 ∧ l.getD j 0 ≤ 1000000 := by
  rw [List.getD_eq_getElem?_getD]
  cases e : l[j]? with
  | none => exact ⟨by decide, by decide⟩
  | some v => exact h v (List.mem_of_getElem? e)

theorem other_spec (w : World) (mean : ExcName → Option Value) (mg mb : Str → Option Value) (ra : Addr) (ns : List Int) :
    SpcN w mean mg mb 68 3 30 [.ref ra] (fun news => ListL news ra ns ∧ OtherOk ns) (fun news r => ∃ l, r = .ref l ∧ ListL news l (otherN ns (ns.length - 1))) := by
  have kf : PySem.Challenge.rw_gz0002_01.row.prog = PySem.Challenge.rw_gz0002_01.row.prog ∧ Mine.hd.heap_39 = Mine.hd.heap_39 := by k_fill; exact ⟨rfl, rfl⟩
  clear kf
  intro dp un gd cn cs a ccd cl outer A₀ base h₀ L m news s Q E B F X N T hk hdp hun hpre hret
  obtain ⟨⟨rs, cr, hmr, hir⟩, z2, z9, hsn, hso⟩ := hpre
  have zr := hir.length
  refine wpAny_call ?_
  k_dflt (refine' code_defC ?k1 ?k2 ?k3 ?k4 ?k5 ?kA ?kF ?kK ?k6 ?k7 ?k8 ?k9 ?kB ?kD ?_ ?c2 ?c3 ?c4; (case kA => exact rfl); (case kF => exact rfl); (case kK => assumption); (case k1 => k_asm); (case k2 => k_asm); (case k3 => k_asm); (case k4 => k_asm); (case k5 => k_asm); (case k6 => k_is); (case k7 => k_is); (case k8 => ktr_room); (case k9 => exact BindsTo.of_eq rfl); (case kB => exact rfl); (case kD => decide +kernel); (case c2 => exact rfl); (case c3 => exact rfl); (case c4 => exact rfl); k_whole; intro g' L' h' tk' cells' FG' F' N' Y' B' X' T' l1; k_cells Y'; (try simp only [List.cons_append, List.nil_append] at N'); (try dsimp only); (try k_fold))
  have c1 : ∀ p ∈ news, p.1 ≠ L' + 1 := fun p hp => by have q : p.1 < L' := l1 p hp; exact Nat.ne_of_lt (Nat.lt_succ_of_lt q)
  have c2 : ∀ p ∈ news, p.1 ≠ L' + 1 + 1 := fun p hp => by have q : p.1 < L' := l1 p hp; exact Nat.ne_of_lt (Nat.lt_succ_of_lt (Nat.lt_succ_of_lt q))
  have c3 : ∀ p ∈ news, p.1 ≠ L' + 1 + 1 + 1 := fun p hp => by have q : p.1 < L' := l1 p hp; exact Nat.ne_of_lt (Nat.lt_succ_of_lt (Nat.lt_succ_of_lt (Nat.lt_succ_of_lt q)))
  k_steps
  rename_i oW _ oR dW _ dR fa _ lfa _ oF F1 N1 dF h2 _ _ _ _ R F2 N2 K2
  replace dW : oW.data = .cell none := dW
  replace dR : oR.data = .cell (some (.ref ra)) := dR
  obtain ⟨lfW, lfF, lfR, lfn⟩ := id lfa
  have lfn' : ∀ p ∈ news, p.1 < fa := ktn_ltOf lfn
  refine Hold.mk ?_
  refine rd_forRange (n := ns.length - 1) (by rfl) F2 N2 R (small_one (by omega) (by omega) (by omega) (by omega)) ((rangeSize_nat _ _).trans (congrArg Nat.cast (show ((ns.length : Int) - 1).toNat = ns.length - 1 by omega))) fun I lI => ?_
  refine rest_items0 (fun r m nx => ∃ i vs c oW x, r = (rangeItems 1 (ns.length - 1)).drop i ∧ i ≤ ns.length - 1 ∧ nx = (fa, W.listOf vs.toArray c) :: (L' + 1 + 1 + 1, oW) :: (L' + 1 + 1, oF) :: (L' + 1, oR) :: news ∧ IntsAre vs (otherN ns i) ∧ oW.data = .cell x) ?turn ?done _ _ _
    ⟨0, [Value.int 1 tk'], 0, oW, _, rfl, Nat.zero_le _, rfl, .cons 1 tk' .nil, dW⟩ (ne_of_lts lI)
  case turn =>
    rintro e r m nx v h tk oI ⟨i, vs, c, oW, x, er, hi, rfl, hv, dW⟩ off hc hvis F N
    have hlt : i < ns.length - 1 := by
      rcases Nat.lt_or_eq_of_le hi with q | q
      · exact q
      · rw [q, rangeItems_done] at er; cases er
    rw [rangeItems_drop hlt] at er
    injection er with er er'
    subst er
    obtain ⟨t, rfl⟩ := hvis
    have lIf : @LT.lt Nat _ fa I := lI (fa, _) List.mem_cons_self
    have lIW : @LT.lt Nat _ (L' + 1 + 1 + 1) I := lI (L' + 1 + 1 + 1, _) (List.mem_cons_of_mem _ List.mem_cons_self)
    have lIn : ∀ p ∈ news, p.1 ≠ I := fun p hp => off p (by simp [hp])
    have lfn2 : ∀ p ∈ news, p.1 ≠ fa := ne_of_lts lfn'
    have zv := hv.length
    dsimp only
    k_steps
    rename_i h6 oW2 F6 N6 dW2 h7 _ _ _ _ R3 F3 N3 K3
    have zo := otherN_len ns i
    refine Hold.mk ?_
    refine CompSrc.range (n := i + 1) (by rfl) F3 N3 R3 (small_one (by omega) (by omega) (by omega) (by omega)) ((rangeSize_nat _ _).trans (congrArg Nat.cast (show ((1 + (i : Int) + 1) - 1).toNat = i + 1 by omega))) (by rw [PySem.sizeLine_eq]; omega) ?_
    intro g2
    refine kcf_range (fun k => ns.getD k.toNat 0 * (otherN ns i).getD ((1 + (i : Int)) - k).toNat 0) (fun k t' I' oI' C oC D m2 ys h tk E' hlo hhi hC hx F N off ne mk => ?_) ?_
    · obtain ⟨q1, q1'⟩ := smallL_getD hsn k.toNat
      obtain ⟨q2, q2'⟩ := smallL_getD (hso i (by omega)) ((1 + (i : Int)) - k).toNat
      k_steps
    · unfold KPfDone
      intro ys hi D h8 tk8 F8 N8 O8
      obtain ⟨O8a, O8b, O8c, O8d, O8e, O8n⟩ := O8
      k_steps
      rename_i h9' tkS tS h9 F9 N9
      rw [List.push_toArray] at N9
      refine ⟨rfl, _, _, _, _, rfl, F9, fun p hp => N9 p (List.mem_cons_of_mem _ hp), fun p hp => ?_, i + 1, vs ++ [_], c + 1, oW2, _, er', hlt, rfl, hv.append (.cons _ _ .nil), dW2⟩
      simp only [List.mem_cons] at hp
      rcases hp with rfl | rfl | rfl | rfl | hp
      · exact Nat.ne_of_lt lIf
      · exact Nat.ne_of_lt lIW
      · exact off (L' + 1 + 1, oF) (by simp)
      · exact off (L' + 1, oR) (by simp)
      · exact lIn p hp
  case done =>
    rintro m nx h tk ⟨i, vs, c, oW, x, er, hi, rfl, hv, dW⟩ off F N
    have hin : i = ns.length - 1 := by
      rcases Nat.lt_or_eq_of_le hi with q | q
      · rw [rangeItems_drop q] at er; cases er
      · exact q
    subst hin
    k_steps
    refine hret _ ((fa, W.listOf vs.toArray c) :: (L' + 1 + 1 + 1, oW) :: (L' + 1 + 1, oF) :: [(L' + 1, oR)]) _ _ (by assumption) (by assumption) (fun q hq p hp => ?_) ⟨fa, rfl, vs, c, List.mem_cons_self, hv⟩
    simp only [List.mem_cons, List.not_mem_nil, or_false] at hp
    rcases hp with rfl | rfl | rfl | rfl
    · exact Nat.ne_of_gt (lfn' q hq)
    · exact Ne.symm (c3 q hq)
    · exact Ne.symm (c2 q hq)
    · exact Ne.symm (c1 q hq)

end Mine

namespace Mine
open PySem.Calls PyProof.V PySem.Spec PyProof.Rows.LCg
local macro_rules | `(tactic| k_mem) => `(tactic| assumption)
local macro_rules | `(tactic| k_all) => `(tactic| first | exact ne_of_lts (by assumption) | exact ne_of_allLt (by assumption) | assumption)
local macro_rules | `(tactic| walk_at "exec For Tuple Call cons nil") => `(tactic| (k_here; (rename Fr _ _ _ _ => lF'); (with_unfolding_all refine' For_turns lF' ?_; k_whole)))
local macro_rules | `(tactic| walk_at "getMethod ref") => `(tactic| (k_here; k_dflt (first
  | ((with_reducible show wpAny _ _ (getMethod (Value.ref _) (Str.ofString "items") _) _ _ _); (refine' rdN_method PySem.F.slot_dict_items PySem.F.type_dict_items ?N ?p ?r ?_; (case N => k_asm); (case p => k_mem); (case r => k_asm)))
  | ((with_reducible show wpAny _ _ (getMethod (Value.ref _) (Str.ofString "values") _) _ _ _); (refine' rdN_method PySem.F.slot_dict_values PySem.F.type_dict_values ?N ?p ?r ?_; (case N => k_asm); (case p => k_mem); (case r => k_asm)))
  | ((with_reducible show wpAny _ _ (getMethod (Value.ref _) (Str.ofString "get") _) _ _ _); (refine' rdN_method PySem.F.slot_dict_get PySem.F.type_dict_get ?N ?p ?r ?_; (case N => k_asm); (case p => k_mem); (case r => k_asm))))))
local macro_rules | `(tactic| walk_at "call builtin:dict.items") => `(tactic| (k_here; k_dflt (refine' rdN_items ?F ?N ?p ?r ?lo ?_; (case F => k_asm); (case N => k_asm); (case p => k_mem); (case r => k_asm); (case lo => k_asm)); intro V' h' F' N' l1; (try k_sweep)))
local macro_rules | `(tactic| walk_at "call builtin:dict.values") => `(tactic| (k_here; k_dflt (refine' rdN_values ?F ?N ?p ?r ?lo ?_; (case F => k_asm); (case N => k_asm); (case p => k_mem); (case r => k_asm); (case lo => k_asm)); intro V' h' F' N' l1; (try k_sweep)))
local macro_rules | `(tactic| walk_at "setItem ref ref") => `(tactic| (k_here; k_dflt (refine' tb_setItem ?u ?F ?N ?U ?s ?T ?K ?z ?_; (case F => k_asm); (case N => k_asm); (case T => k_asm); (case U => k_updF); (case K => k_asm); (case z => k_asm); (case s => (intro p hp; kcf_m)); (case u => (have hcL9 := cLine_is; simp only [units_in1, units_deeper, Around.mark_units, units_caller]; (try dsimp only [ktrTop]); omega))); intro h' o' F' N' T'; (try dsimp only at N'); (try k_sweep)))
local macro_rules | `(tactic| walk_at "compareOp In ref ref") => `(tactic| (k_here; k_dflt (first
  | (refine' tb_inB true ?b ?u ?N ?p ?s ?lo ?T ?K ?_; (case b => with_reducible assumption); (case N => k_asm); (case p => k_mem); (case lo => k_asm); (case T => k_asm); (case K => k_asm); (case s => (intro p hp; kcf_m)); (case u => (have hcL9 := cLine_is; simp only [units_in1, units_deeper, Around.mark_units, units_caller]; (try dsimp only [ktrTop]); omega)))
  | (refine' tb_inB false ?b ?u ?N ?p ?s ?lo ?T ?K ?_; (case b => with_reducible assumption); (case N => k_asm); (case p => k_mem); (case lo => k_asm); (case T => k_asm); (case K => k_asm); (case s => (intro p hp; kcf_m)); (case u => (have hcL9 := cLine_is; simp only [units_in1, units_deeper, Around.mark_units, units_caller]; (try dsimp only [ktrTop]); omega))))))
local macro_rules | `(tactic| walk_at "getItem ref ref") => `(tactic| (k_here; k_dflt (refine' tb_getItem ?u ?N ?p ?s ?T ?K ?v ?_; (case v => with_reducible assumption); (case N => k_asm); (case p => k_mem); (case T => k_asm); (case K => k_asm); (case s => (intro p hp; kcf_m)); (case u => (have hcL9 := cLine_is; simp only [units_in1, units_deeper, Around.mark_units, units_caller]; (try dsimp only [ktrTop]); omega)); intro t')))

local macro_rules | `(tactic| walk_at "call ref") => `(tactic| (k_here; refine Hold.out ?_))
local macro_rules | `(tactic| walk_at "call type:dict") => `(tactic| (k_here; refine Hold.out ?_))
local macro_rules | `(tactic| walk_at "eval ListComp") => `(tactic| (k_here; refine Hold.out ?_))
local macro_rules | `(tactic| walk_at "eval Dict") => `(tactic| (k_here; k_dflt (refine' dk_dict ?F ?N (TopRead.nolimit (by k_asm)) ?_; (case F => k_asm); (case N => k_asm); k_whole); intro d' o' h' F' N' l1 lo' T'; (try k_sweep)))
local macro_rules | `(tactic| walk_at "subscriptTail") => `(tactic| (k_here; (with_reducible show wpAny _ _ (subscriptTail _ _ (Value.ref _) (Value.int 1 _)) _ _ _); k_dflt (refine' key_item ?N ?K ?_; (case K => k_asm); (case N => (refine fun p hp => (by assumption : News _ _ _ _) p ?_; kcf_m)); intro t')))
local macro_rules | `(tactic| walk_at "dictSet ref int") => `(tactic| (k_here; k_dflt (refine' dk_store ?u ?F ?N ?U ?T ?K ?_; (case F => k_asm); (case N => k_asm); (case T => k_asm); (case U => k_updF); (case K => exact KeyL.made (by k_mem)); (case u => (have hcL9 := cLine_is; simp only [units_in1, units_deeper, Around.mark_units, units_caller]; (try dsimp only [ktrTop]); omega))); intro h' o' xs' F' N' T'; (try dsimp only at N' T'); (try k_sweep)))
local macro_rules | `(tactic| walk_at "newTuple") => `(tactic| (k_here; k_dflt (refine' kup_newTuple ?F ?N ?_ ?z; (case F => k_asm); (case N => k_asm); (case z => kmk_size)); intro D' h' F' N' l1; (try k_lt l1); (try k_sweep)))

local macro_rules | `(tactic| walk_at "exec For Name Call cons nil") => `(tactic| (k_here; (rename Fr _ _ _ _ => lF'); (with_unfolding_all refine' For_turns lF' ?_; k_whole)))
local macro_rules | `(tactic| walk_at "pyIter ref") => `(tactic| (k_here; refine Hold.out ?_))
noncomputable def sumT (l : List (Int × Int)) : Int := l.foldl (fun a p => a + p.2) 0
theorem reset_A6 : True := by
  w_top off
  trivial
theorem sumT_snoc (l : List (Int × Int)) (k v : Int) : sumT (l ++ [(k, v)]) = sumT l + v := by simp [sumT, List.foldl_append]
noncomputable def itv (x : Int × Addr × Value) : Itm := Itm.val x.2.2
theorem valuesOf_tab {prog : Program} {w : World} {es : Array DictEntry} {xs : List (Int × Addr × Value)} (e : es.toList = xs.map (entryOfKey (atKind prog w))) : valuesOf es = xs.map itv := by
  unfold valuesOf
  rw [e, List.map_map]
  rfl

theorem count_spec (w : World) (mean : ExcName → Option Value) (mg mb : Str → Option Value) (ta : Addr) (kt : List (Int × Int)) :
    Spc w mean mg mb 28 2 20 [.ref ta] (fun news => TabL PG w news ta kt) (fun news r => ∃ t, r = .int (sumT kt) t) := by
  have kf : PySem.Challenge.rw_gz0002_01.row.prog = PySem.Challenge.rw_gz0002_01.row.prog ∧ Mine.hd.heap_39 = Mine.hd.heap_39 := by k_fill; exact ⟨rfl, rfl⟩
  clear kf
  intro dp un gd cn cs a ccd cl outer A₀ base h₀ L m news s Q E B F X N T hk hdp hun hpre hret
  obtain ⟨lo1, o1, xs1, hm1, T1⟩ := hpre
  obtain ⟨es1, ep1, r1, e1, n1, k1, v1⟩ := id T1
  refine wpAny_call ?_
  k_dflt ktr_enter
  k_steps
  rename_i g' L' _ FG' B' X' T' _ V h3 F3 N3 lV
  refine Hold.mk ?_
  refine rd_forValues (by rfl) F3 (fun p hp => N3 p (List.mem_cons_of_mem _ hp)) ⟨_, (N3 _ (List.mem_cons_self)).1, rfl, rfl⟩ hm1 r1 fun I lI => ?_
  rw [valuesOf_tab e1]
  refine rest_items (fun r m nx => ∃ ys kd ky t, r = ys.map itv ∧ kt = kd ++ ky ∧ ValsAre ys ky ∧ nx = news ∧ m (Str.ofString "nc") = some (.int (sumT kd) t)) (fun r m nx ⟨_, _, _, _, _, _, _, e, _⟩ => e ▸ hm1) ?turn ?done _ _ _
    ⟨xs1, [], kt, _, rfl, rfl, v1, rfl, rfl⟩ (ne_of_lts lI)
  case turn =>
    rintro e r m nx v h tk oI ⟨ys, kd, ky, t, e0, ek, hv, rfl, hmN⟩ off hc hvis F N
    cases hv with
    | nil => cases e0
    | @cons n a' vv t2 ys ky hv =>
      rw [List.map_cons] at e0
      injection e0 with e0 e0'
      subst e0
      have hvis' : v = .int vv t2 := hvis
      subst hvis'
      replace F := fr_pin F hmN
      k_steps
      refine ⟨rfl, _, _, _, _, rfl, (by assumption), (by assumption), off, ys, kd ++ [(n, vv)], ky, _, e0', by rw [ek, List.append_assoc]; rfl, hv, rfl, (congrArg (fun z => some (Value.int z _)) (sumT_snoc kd n vv)).symm⟩
  case done =>
    rintro m nx h tk ⟨ys, kd, ky, t, e0, ek, hv, rfl, hmN⟩ off F N
    have hys : ys = [] := List.map_eq_nil_iff.mp e0.symm
    subst hys
    cases hv
    rw [List.append_nil] at ek
    subst ek
    replace F := fr_pin F hmN
    k_steps
    refine hret _ [] _ _ (by assumption) (by assumption) (fun q hq p hp => nomatch hp) ⟨_, rfl⟩

end Mine

namespace Mine
open PySem.Calls PyProof.V PySem.Spec PyProof.Rows.LCg
local macro_rules | `(tactic| k_mem) => `(tactic| assumption)
local macro_rules | `(tactic| k_all) => `(tactic| first | exact ne_of_lts (by assumption) | exact ne_of_allLt (by assumption) | assumption)
local macro_rules | `(tactic| walk_at "exec For Tuple Call cons nil") => `(tactic| (k_here; (rename Fr _ _ _ _ => lF'); (with_unfolding_all refine' For_turns lF' ?_; k_whole)))
local macro_rules | `(tactic| walk_at "getMethod ref") => `(tactic| (k_here; k_dflt (first
  | ((with_reducible show wpAny _ _ (getMethod (Value.ref _) (Str.ofString "items") _) _ _ _); (refine' rdN_method PySem.F.slot_dict_items PySem.F.type_dict_items ?N ?p ?r ?_; (case N => k_asm); (case p => k_mem); (case r => k_asm)))
  | ((with_reducible show wpAny _ _ (getMethod (Value.ref _) (Str.ofString "values") _) _ _ _); (refine' rdN_method PySem.F.slot_dict_values PySem.F.type_dict_values ?N ?p ?r ?_; (case N => k_asm); (case p => k_mem); (case r => k_asm)))
  | ((with_reducible show wpAny _ _ (getMethod (Value.ref _) (Str.ofString "get") _) _ _ _); (refine' rdN_method PySem.F.slot_dict_get PySem.F.type_dict_get ?N ?p ?r ?_; (case N => k_asm); (case p => k_mem); (case r => k_asm))))))
local macro_rules | `(tactic| walk_at "call builtin:dict.items") => `(tactic| (k_here; k_dflt (refine' rdN_items ?F ?N ?p ?r ?lo ?_; (case F => k_asm); (case N => k_asm); (case p => k_mem); (case r => k_asm); (case lo => k_asm)); intro V' h' F' N' l1; (try k_sweep)))
local macro_rules | `(tactic| walk_at "call builtin:dict.values") => `(tactic| (k_here; k_dflt (refine' rdN_values ?F ?N ?p ?r ?lo ?_; (case F => k_asm); (case N => k_asm); (case p => k_mem); (case r => k_asm); (case lo => k_asm)); intro V' h' F' N' l1; (try k_sweep)))
local macro_rules | `(tactic| walk_at "setItem ref ref") => `(tactic| (k_here; k_dflt (refine' tb_setItem ?u ?F ?N ?U ?s ?T ?K ?z ?_; (case F => k_asm); (case N => k_asm); (case T => k_asm); (case U => k_updF); (case K => k_asm); (case z => k_asm); (case s => (intro p hp; kcf_m)); (case u => (have hcL9 := cLine_is; simp only [units_in1, units_deeper, Around.mark_units, units_caller]; (try dsimp only [ktrTop]); omega))); intro h' o' F' N' T'; (try dsimp only at N'); (try k_sweep)))
local macro_rules | `(tactic| walk_at "compareOp In ref ref") => `(tactic| (k_here; k_dflt (first
  | (refine' tb_inB true ?b ?u ?N ?p ?s ?lo ?T ?K ?_; (case b => with_reducible assumption); (case N => k_asm); (case p => k_mem); (case lo => k_asm); (case T => k_asm); (case K => k_asm); (case s => (intro p hp; kcf_m)); (case u => (have hcL9 := cLine_is; simp only [units_in1, units_deeper, Around.mark_units, units_caller]; (try dsimp only [ktrTop]); omega)))
  | (refine' tb_inB false ?b ?u ?N ?p ?s ?lo ?T ?K ?_; (case b => with_reducible assumption); (case N => k_asm); (case p => k_mem); (case lo => k_asm); (case T => k_asm); (case K => k_asm); (case s => (intro p hp; kcf_m)); (case u => (have hcL9 := cLine_is; simp only [units_in1, units_deeper, Around.mark_units, units_caller]; (try dsimp only [ktrTop]); omega))))))
local macro_rules | `(tactic| walk_at "getItem ref ref") => `(tactic| (k_here; k_dflt (refine' tb_getItem ?u ?N ?p ?s ?T ?K ?v ?_; (case v => with_reducible assumption); (case N => k_asm); (case p => k_mem); (case T => k_asm); (case K => k_asm); (case s => (intro p hp; kcf_m)); (case u => (have hcL9 := cLine_is; simp only [units_in1, units_deeper, Around.mark_units, units_caller]; (try dsimp only [ktrTop]); omega)); intro t')))

local macro_rules | `(tactic| walk_at "call ref") => `(tactic| (k_here; refine Hold.out ?_))
local macro_rules | `(tactic| walk_at "call type:dict") => `(tactic| (k_here; refine Hold.out ?_))
local macro_rules | `(tactic| walk_at "eval ListComp") => `(tactic| (k_here; refine Hold.out ?_))
local macro_rules | `(tactic| walk_at "eval Dict") => `(tactic| (k_here; k_dflt (refine' dk_dict ?F ?N (TopRead.nolimit (by k_asm)) ?_; (case F => k_asm); (case N => k_asm); k_whole); intro d' o' h' F' N' l1 lo' T'; (try k_sweep)))
local macro_rules | `(tactic| walk_at "subscriptTail") => `(tactic| (k_here; (with_reducible show wpAny _ _ (subscriptTail _ _ (Value.ref _) (Value.int 1 _)) _ _ _); k_dflt (refine' key_item ?N ?K ?_; (case K => k_asm); (case N => (refine fun p hp => (by assumption : News _ _ _ _) p ?_; kcf_m)); intro t')))
local macro_rules | `(tactic| walk_at "dictSet ref int") => `(tactic| (k_here; k_dflt (refine' dk_store ?u ?F ?N ?U ?T ?K ?_; (case F => k_asm); (case N => k_asm); (case T => k_asm); (case U => k_updF); (case K => exact KeyL.made (by k_mem)); (case u => (have hcL9 := cLine_is; simp only [units_in1, units_deeper, Around.mark_units, units_caller]; (try dsimp only [ktrTop]); omega))); intro h' o' xs' F' N' T'; (try dsimp only at N' T'); (try k_sweep)))
local macro_rules | `(tactic| walk_at "newTuple") => `(tactic| (k_here; k_dflt (refine' kup_newTuple ?F ?N ?_ ?z; (case F => k_asm); (case N => k_asm); (case z => kmk_size)); intro D' h' F' N' l1; (try k_lt l1); (try k_sweep)))

local macro_rules | `(tactic| walk_at "call builtin:len") => `(tactic| (k_here; (with_reducible show wpAny _ _ (call (Value.builtin "len") [Value.ref _]) _ _ _); k_dflt (refine' lst_len ?N ?p ?i ?z ?_; (case N => k_asm); (case p => k_mem); (case i => assumption); (case z => omega))))
local macro_rules | `(tactic| walk_at "subscriptTail") => `(tactic| (k_here; (with_reducible show wpAny _ _ (subscriptTail _ _ (Value.ref _) (Value.int _ _)) _ _ _); k_dflt (refine' lst_item ?N ?p ?i ?a ?b ?c ?_; (case N => k_asm); (case p => k_mem); (case i => assumption); (case a => omega); (case b => omega); (case c => omega)); intro t'))
local macro_rules | `(tactic| walk_at "exec While") => `(tactic| (k_here; refine Hold.out ?_))
local macro_rules | `(tactic| walk_at "exec While Compare") => `(tactic| (k_here; refine Hold.out ?_))
noncomputable def bisN (ns : List Int) (x : Int) : Nat → Int → Int → Int
  | 0, lo, _ => lo
  | f + 1, lo, hi => if lo < hi then (if ns.getD ((lo + hi) / 2).toNat 0 < x then bisN ns x f ((lo + hi) / 2 + 1) hi else bisN ns x f lo ((lo + hi) / 2)) else lo
noncomputable def bisF (ns : List Int) (x : Int) : Int := bisN ns x ns.length 0 ns.length

theorem reset_A7 : True := by
  w_top off
  trivial
theorem bisect_spec (w : World) (mean : ExcName → Option Value) (mg mb : Str → Option Value) (sa : Addr) (ns : List Int) (x : Int) (xt : Tok) :
    Spc w mean mg mb 46 2 20 [.ref sa, .int x xt] (fun news => ListL news sa ns ∧ ns.length ≤ 64) (fun news r => ∃ t, r = .int (bisF ns x) t) := by
  have kf : PySem.Challenge.rw_gz0002_01.row.prog = PySem.Challenge.rw_gz0002_01.row.prog ∧ Mine.hd.heap_39 = Mine.hd.heap_39 := by k_fill; exact ⟨rfl, rfl⟩
  clear kf
  intro dp un gd cn cs a ccd cl outer A₀ base h₀ L m news s Q E B F X N T hk hdp hun hpre hret
  obtain ⟨⟨vs, c, hm1, hv⟩, z64⟩ := hpre
  have zv := hv.length
  refine wpAny_call ?_
  k_dflt (refine' code_def ?k1 ?k2 ?k3 ?k4 ?k5 ?kA ?kF ?kK ?k6 ?k7 ?k8 ?k9 ?kB ?_ ?c2 ?c3 ?c4 ?c5; (case kA => exact rfl); (case kF => exact rfl); (case kK => assumption); (case k1 => k_asm); (case k2 => k_asm); (case k3 => k_asm); (case k4 => k_asm); (case k5 => k_asm); (case k6 => k_is); (case k7 => k_is); (case k8 => ktr_room); (case k9 => (refine' kp_binds ?kx ?ke; (case kx => k_in); (case ke => exact fun _ => rfl))); (case c5 => decide); (case kB => exact locs rfl); (case c2 => exact rfl); (case c3 => exact rfl); (case c4 => exact rfl); k_whole; intro g' L' h' FG' F' N' B' X' T'; (try dsimp only); (try k_fold))
  k_steps
  rename_i h1 F1 N1
  refine Hold.mk ?_
  refine While_inv (fun n m nx => ∃ lo hi lt ht, bisN ns x n lo hi = bisF ns x ∧ 0 ≤ lo ∧ hi ≤ (ns.length : Int) ∧ hi - lo ≤ (n : Int) ∧ nx = news ∧ m (Str.ofString "lo") = some (.int lo lt) ∧ m (Str.ofString "hi") = some (.int hi ht) ∧
    m (Str.ofString "a") = some (.ref sa) ∧ m (Str.ofString "x") = some (.int x xt)) (n₀ := ns.length) F1 N1 ⟨0, (ns.length : Int), _, _, rfl, Int.le_refl _, Int.le_refl _, by omega, rfl, rfl, rfl, rfl, rfl⟩ ?_
  rintro n m1 nx h tk F N ⟨lo, hi, lt, ht, eb, l0, hz, hn, rfl, hmL, hmH, hmA, hmX⟩
  replace F := fr_pin4 F hmL hmH hmA hmX
  by_cases hlt : lo < hi
  · obtain ⟨n, rfl⟩ : ∃ n', n = n' + 1 := ⟨n - 1, by omega⟩
    rw [bisN, if_pos hlt] at eb
    have e2 : Int.fdiv (lo + hi) 2 = (lo + hi) / 2 := Int.fdiv_eq_ediv_of_nonneg _ (by decide)
    rw [← e2] at eb
    k_steps
    · skip
      rw [if_pos (by assumption)] at eb
      exact ⟨rfl, _, _, _, _, n, rfl, (by assumption), (by assumption), Nat.lt_succ_self n, _, _, _, _, eb, by omega, hz, by omega, rfl, rfl, rfl, rfl, rfl⟩
    · rw [if_neg (by assumption)] at eb
      exact ⟨rfl, _, _, _, _, n, rfl, (by assumption), (by assumption), Nat.lt_succ_self n, _, _, _, _, eb, l0, by omega, by omega, rfl, rfl, rfl, rfl, rfl⟩
  · have eb' : bisF ns x = lo := by
      rw [← eb]
      cases n with
      | zero => rfl
      | succ n => rw [bisN, if_neg hlt]
    k_steps
    refine hret _ [] _ _ (by assumption) (by assumption) (fun q hq p hp => nomatch hp) ⟨_, congrArg (fun z => Value.int z _) eb'.symm⟩

theorem bisect_spec4 (w : World) (mean : ExcName → Option Value) (mg mb : Str → Option Value) (sa : Addr) (ns : List Int) (x : Int) (xt lt0 : Tok) :
    Spc w mean mg mb 46 2 20 [.ref sa, .int x xt, .int 0 lt0, .none] (fun news => ListL news sa ns ∧ ns.length ≤ 64) (fun news r => ∃ t, r = .int (bisF ns x) t) := by
  have kf : PySem.Challenge.rw_gz0002_01.row.prog = PySem.Challenge.rw_gz0002_01.row.prog ∧ Mine.hd.heap_39 = Mine.hd.heap_39 := by k_fill; exact ⟨rfl, rfl⟩
  clear kf
  intro dp un gd cn cs a ccd cl outer A₀ base h₀ L m news s Q E B F X N T hk hdp hun hpre hret
  obtain ⟨⟨vs, c, hm1, hv⟩, z64⟩ := hpre
  have zv := hv.length
  refine wpAny_call ?_
  k_dflt (refine' code_def ?k1 ?k2 ?k3 ?k4 ?k5 ?kA ?kF ?kK ?k6 ?k7 ?k8 ?k9 ?kB ?_ ?c2 ?c3 ?c4 ?c5; (case kA => exact rfl); (case kF => exact rfl); (case kK => assumption); (case k1 => k_asm); (case k2 => k_asm); (case k3 => k_asm); (case k4 => k_asm); (case k5 => k_asm); (case k6 => k_is); (case k7 => k_is); (case k8 => ktr_room); (case k9 => (refine' kp_binds ?kx ?ke; (case kx => k_in); (case ke => exact fun _ => rfl))); (case c5 => decide); (case kB => exact locs rfl); (case c2 => exact rfl); (case c3 => exact rfl); (case c4 => exact rfl); k_whole; intro g' L' h' FG' F' N' B' X' T'; (try dsimp only); (try k_fold))
  k_steps
  rename_i h1 F1 N1
  refine Hold.mk ?_
  refine While_inv (fun n m nx => ∃ lo hi lt ht, bisN ns x n lo hi = bisF ns x ∧ 0 ≤ lo ∧ hi ≤ (ns.length : Int) ∧ hi - lo ≤ (n : Int) ∧ nx = news ∧ m (Str.ofString "lo") = some (.int lo lt) ∧ m (Str.ofString "hi") = some (.int hi ht) ∧
    m (Str.ofString "a") = some (.ref sa) ∧ m (Str.ofString "x") = some (.int x xt)) (n₀ := ns.length) F1 N1 ⟨0, (ns.length : Int), _, _, rfl, Int.le_refl _, Int.le_refl _, by omega, rfl, rfl, rfl, rfl, rfl⟩ ?_
  rintro n m1 nx h tk F N ⟨lo, hi, lt, ht, eb, l0, hz, hn, rfl, hmL, hmH, hmA, hmX⟩
  replace F := fr_pin4 F hmL hmH hmA hmX
  by_cases hlt : lo < hi
  · obtain ⟨n, rfl⟩ : ∃ n', n = n' + 1 := ⟨n - 1, by omega⟩
    rw [bisN, if_pos hlt] at eb
    have e2 : Int.fdiv (lo + hi) 2 = (lo + hi) / 2 := Int.fdiv_eq_ediv_of_nonneg _ (by decide)
    rw [← e2] at eb
    k_steps
    · skip
      rw [if_pos (by assumption)] at eb
      exact ⟨rfl, _, _, _, _, n, rfl, (by assumption), (by assumption), Nat.lt_succ_self n, _, _, _, _, eb, by omega, hz, by omega, rfl, rfl, rfl, rfl, rfl⟩
    · rw [if_neg (by assumption)] at eb
      exact ⟨rfl, _, _, _, _, n, rfl, (by assumption), (by assumption), Nat.lt_succ_self n, _, _, _, _, eb, l0, by omega, by omega, rfl, rfl, rfl, rfl, rfl⟩
  · have eb' : bisF ns x = lo := by
      rw [← eb]
      cases n with
      | zero => rfl
      | succ n => rw [bisN, if_neg hlt]
    k_steps
    refine hret _ [] _ _ (by assumption) (by assumption) (fun q hq p hp => nomatch hp) ⟨_, congrArg (fun z => Value.int z _) eb'.symm⟩

end Mine

namespace Mine
open PySem.Calls PyProof.V PySem.Spec PyProof.Rows.LCg
local macro_rules | `(tactic| k_all) => `(tactic| first | exact ne_of_lts (by assumption) | exact ne_of_allLt (by assumption) | assumption)
local macro_rules | `(tactic| walk_at "UnrEnd") => `(tactic| (k_here; k_dflt (refine' unr_tail ?F ?N ?o ?_; (case F => k_asm); (case N => k_asm); (case o => k_all))))
local macro_rules | `(tactic| walk_at "call ref") => `(tactic| (k_here; first
  | ((with_reducible show wpAny _ _ (call (Value.ref 58) _) _ _ _); refine Hold.out ?_)
  | ((with_reducible show wpAny _ _ (call (Value.ref 51) _) _ _ _); refine Hold.out ?_)
  | ((with_reducible show wpAny _ _ (call (Value.ref 63) _) _ _ _); refine Hold.out ?_)
  | ((with_reducible show wpAny _ _ (call (Value.ref 68) _) _ _ _); refine Hold.out ?_)
  | ((with_reducible show wpAny _ _ (call (Value.ref 28) _) _ _ _); refine Hold.out ?_)
  | ((with_reducible show wpAny _ _ (call (Value.ref 46) [Value.ref _, Value.int _ _]) _ _ _); refine Hold.out ?_)))

local macro_rules | `(tactic| k_mem) => `(tactic| assumption)
local macro_rules | `(tactic| walk_at "call ref") => `(tactic| (k_here; refine Hold.out ?_))
local macro_rules | `(tactic| walk_at "call builtin:list.insert") => `(tactic| (k_here; refine Hold.out ?_))
noncomputable def insK (ns : List Int) (i : Int) : Nat := if i < 0 then (i + (ns.length : Int)).toNat else min i.toNat ns.length
noncomputable def insN (ns : List Int) (x : Int) : List Int := ns.take (insK ns (bisF ns x)) ++ x :: ns.drop (insK ns (bisF ns x))
theorem reset_A8 : True := by
  w_top off
  trivial
theorem ints_take {vs : List Value} {ns : List Int} (h : IntsAre vs ns) : ∀ k, IntsAre (vs.take k) (ns.take k) := by
  induction h with
  | nil => intro k; simp only [List.take_nil]; exact .nil
  | cons n t _ ih =>
    intro k
    cases k with
    | zero => simp only [List.take_zero]; exact .nil
    | succ k => simp only [List.take_succ_cons]; exact .cons n t (ih k)
theorem ints_drop {vs : List Value} {ns : List Int} (h : IntsAre vs ns) : ∀ k, IntsAre (vs.drop k) (ns.drop k) := by
  induction h with
  | nil => intro k; simp only [List.drop_nil]; exact .nil
  | cons n t h ih =>
    intro k
    cases k with
    | zero => simp only [List.drop_zero]; exact .cons n t h
    | succ k => simp only [List.drop_succ_cons]; exact ih k
theorem ints_ins {vs : List Value} {ns : List Int} (h : IntsAre vs ns) (x : Int) (t : Tok) : IntsAre (kl_ins vs (bisF ns x) (.int x t)) (insN ns x) := by
  unfold kl_ins insN insK
  rw [h.length]
  exact (ints_take h _).append (.cons x t (ints_drop h _))

theorem upd_mid {D : Addr} {o o' : Obj} {pre post : List (Addr × Obj)} (ha : ∀ p ∈ pre, p.1 ≠ D) (hc : ∀ p ∈ post, p.1 ≠ D) : Upd D o o' (pre ++ (D, o) :: post) (pre ++ (D, o') :: post) := by
  induction pre with
  | nil => exact Upd.head hc
  | cons p pre ih => exact Upd.tail (ha p List.mem_cons_self) (ih fun q hq => ha q (List.mem_cons_of_mem _ hq))

theorem insort_spec (w : World) (mean : ExcName → Option Value) (mg mb : Str → Option Value) (sa : Addr) (ns : List Int) (x : Int) (xt : Tok) :
  ∀ (dp un : Nat) (gd : Option (List Code)) (cn : Str) (cs : Scope) (a : Addr) (ccd : Value) (cl : List (Str × Addr)) (outer : List Env) (A₀ : Around) (base h₀ : Heap) (L : Addr) (m : Str → Option Value) (pre post : List (Addr × Obj)) (vs : List Value) (c : Nat) (s : Shared)
    (Q E : Value → Shared → Prop),
    Below A₀ base outer h₀ → Fr h₀ L s.heap m → (Mine.hd.heap_39 w.params).In h₀ → News h₀ L s.heap (pre ++ (sa, W.listOf vs.toArray c) :: post) → Top Mine.hd.view_39 LO mean mg mb h₀ → cs.kind = .function → dp + 5 < recursionLimit → un + 40 < cLine →
    (∀ p ∈ pre, p.1 ≠ sa) → (∀ p ∈ post, p.1 ≠ sa) → IntsAre vs ns → ns.length ≤ 60 → Builtin.List.listFitsIndex (bisF ns x) = true →
    (∀ h' tk' vs', Fr h₀ L h' m → News h₀ L h' (pre ++ (sa, W.listOf vs'.toArray (c + 1)) :: post) → IntsAre vs' (insN ns x) → Q .none { s with heap := h', toks := tk' }) →
    wpAny (model PG w) (ktrTop dp un gd cn cs L a ccd cl outer) (call (.ref 37) [.ref sa, .int x xt]) Q E s := by
  have kf : PySem.Challenge.rw_gz0002_01.row.prog = PySem.Challenge.rw_gz0002_01.row.prog ∧ Mine.hd.heap_39 = Mine.hd.heap_39 := by k_fill; exact ⟨rfl, rfl⟩
  clear kf
  intro dp un gd cn cs a ccd cl outer A₀ base h₀ L m pre post vs c s Q E B F X N T hk hdp hun ha hc hv hz hfit hret
  refine wpAny_call ?_
  k_dflt (refine' code_def ?k1 ?k2 ?k3 ?k4 ?k5 ?kA ?kF ?kK ?k6 ?k7 ?k8 ?k9 ?kB ?_ ?c2 ?c3 ?c4 ?c5; (case kA => exact rfl); (case kF => exact rfl); (case kK => assumption); (case k1 => k_asm); (case k2 => k_asm); (case k3 => k_asm); (case k4 => k_asm); (case k5 => k_asm); (case k6 => k_is); (case k7 => k_is); (case k8 => ktr_room); (case k9 => (refine' kp_binds ?kx ?ke; (case kx => k_in); (case ke => exact fun _ => rfl))); (case c5 => decide); (case kB => exact locs rfl); (case c2 => exact rfl); (case c3 => exact rfl); (case c4 => exact rfl); k_whole; intro g' L' h' FG' F' N' B' X' T'; (try dsimp only); (try k_fold))
  k_steps
  refine Hold.mk ?_
  refine (bisect_spec4 w mean mg mb sa ns x _ _) _ _ _ _ _ _ _ _ _ _ _ _ _ _ _ _ _ _ B' F' X' N' T' rfl (by ktr_room) (by ktr_units) ⟨⟨vs, c, by simp, hv⟩, by omega⟩ ?_
  rintro r6 tl6 h6 tk6 F6 N6 ord6 ⟨t6, rfl⟩
  replace N6 : News g' L' h6 (pre ++ (sa, W.listOf vs.toArray c) :: post) := fun p hp => N6 p (List.mem_append_right _ hp)
  have hm6 : (sa, W.listOf vs.toArray c) ∈ pre ++ (sa, W.listOf vs.toArray c) :: post := by simp
  clear F' N'
  k_steps
  refine Hold.mk ?_
  rename_i h7 F7 N7
  have zz : vs.toArray.toList.length ≤ sizeLine := by rw [sizeLine_eq]; show vs.length ≤ _; rw [hv.length]; omega
  refine kl_insert F7 N7 hfit rfl (upd_mid ha hc) zz fun h8 F8 N8 => ?_
  clear F7 N7
  k_steps
  exact hret _ _ (kl_ins vs (bisF ns x) (.int x xt)) (by assumption) (by assumption) (ints_ins hv x xt)

end Mine

namespace Mine
open PySem.Calls PyProof.V PySem.Spec
noncomputable def bodyOf : Stmt → List Stmt
  | .FunctionDef _ _ b _ _ _ _ _ _ _ => b
  | _ => []
noncomputable def scopeOf : Stmt → Scope
  | .FunctionDef _ _ _ _ _ _ s _ _ _ => s
  | _ => { kind := .function, names := [], isGenerator := false, isCoroutine := false, more := [] }
noncomputable def forBody : Stmt → List Stmt
  | .For _ _ b _ _ => b
  | _ => []
noncomputable def lastOf : List Stmt → Stmt
  | [] => .Pass ⟨0, 0, 0, 0⟩
  | [s] => s
  | _ :: r => lastOf r
noncomputable def lawDef : Stmt := lastOf PySem.Challenge.pw_gz0002_01.main.body
noncomputable def lawBody (n : Nat) : List Stmt := (bodyOf lawDef).drop n
noncomputable def st (n : Nat) : Stmt := (lawBody n).headD (.Pass ⟨0, 0, 0, 0⟩)
noncomputable def lawScope : Scope := scopeOf lawDef
noncomputable def numBody : List Stmt := forBody (st 6)
noncomputable abbrev lawEnv (L fa wc : Addr) : Env := envOfC (Str.ofString "law") lawScope L fa (.ref wc)
noncomputable abbrev lawA (L fa wc : Addr) : Around := callerA.deeper (lawEnv L fa wc)
end Mine

namespace Mine
open PySem.Calls PyProof.V PySem.Spec PyProof.Rows.LCg
theorem mem_mid {α : Type} {c p : α} {pre post : List α} (hp : p ∈ c :: (pre ++ post)) : p ∈ pre ++ c :: post := by
  simp only [List.mem_cons, List.mem_append] at hp ⊢; grind
theorem mem_mid' {α : Type} {c p : α} {pre post : List α} (hp : p ∈ pre ++ c :: post) : p ∈ pre ++ post ∨ p = c := by
  simp only [List.mem_cons, List.mem_append] at hp ⊢; grind
noncomputable abbrev Loc (m : Str → Option Value) (b : Int) (tb : Tok) (d1 d2 d3 lR : Addr) : Prop :=
  m (Str.ofString "bound") = some (.int b tb) ∧ m (Str.ofString "once") = some (.ref d1) ∧ m (Str.ofString "twice") = some (.ref d2) ∧ m (Str.ofString "third") = some (.ref d3) ∧ m (Str.ofString "row") = some (.ref lR)
theorem fr_loc {h₀ h : Heap} {L : Addr} {m : Str → Option Value} {b : Int} {tb : Tok} {d1 d2 d3 lR : Addr} (F : Fr h₀ L h m) (e : Loc m b tb d1 d2 d3 lR) :
    Fr h₀ L h (fun y => if y = Str.ofString "bound" then some (.int b tb) else if y = Str.ofString "once" then some (.ref d1) else if y = Str.ofString "twice" then some (.ref d2) else if y = Str.ofString "third" then some (.ref d3) else if y = Str.ofString "row" then some (.ref lR) else m y) := by
  obtain ⟨e1, e2, e3, e4, e5⟩ := e
  have q : (fun y => if y = Str.ofString "bound" then some (.int b tb) else if y = Str.ofString "once" then some (.ref d1) else if y = Str.ofString "twice" then some (.ref d2) else if y = Str.ofString "third" then some (.ref d3) else if y = Str.ofString "row" then some (.ref lR) else m y) = m := by
    funext y
    split
    · rename_i h; rw [h, e1]
    split
    · rename_i h; rw [h, e2]
    split
    · rename_i h; rw [h, e3]
    split
    · rename_i h; rw [h, e4]
    split
    · rename_i h; rw [h, e5]
    rfl
  rw [q]; exact F
theorem ITabL.dropCell {prog : Program} {w : World} {news news' : List (Addr × Obj)} {d I : Addr} {oI : Obj} {kvs : List (Int × Int)} {x : Option Value} (T : ITabL prog w news d kvs) (hc : oI.data = .cell x)
    (hs : ∀ p ∈ news, p ∈ news' ∨ p = (I, oI)) : ITabL prog w news' d kvs := by
  obtain ⟨lo, o, xs, hm, h1, h2⟩ := T
  refine ⟨lo, o, xs, ?_, h1, h2⟩
  rcases hs _ hm with h | h
  · exact h
  · cases h
    obtain ⟨es, ep, _, hd, _⟩ := h1
    rw [hc] at hd
    cases hd
theorem rangeKs_snoc (a : Int) (n : Nat) : rangeKs a (n + 1) = rangeKs a n ++ [a + (n : Int)] := by
  simp [rangeKs, List.range_succ]
section
variable {prog : Program} {w : World} {A : Around} {E : Value → Shared → Prop} {s : Shared} {h₀ : Heap} {L : Addr} {news : List (Addr × Obj)} {a b : Addr} {ns ms : List Int} {Q : Value → Shared → Prop}
theorem ne_same {a : Int} {t u : Tok} (h : Q (.bool false) s) : wpAny (model prog w) A (compareOp .NotEq (.int a t) (.int a u)) Q E s :=
  PySem.IsLeap.wpAny_ne_int (by rw [bne_self_eq_false]; exact h)
theorem lst_is {h : Heap} (N : News h₀ L h news) {vs : List Value} {c : Nat} (hm : (a, W.listOf vs.toArray c) ∈ news) : h.IsList a vs.toArray := ⟨_, N.get hm, rfl, _, rfl⟩
theorem lst_ne (N : News h₀ L s.heap news) (ha : ListL news a ns) (hb : ListL news b ms) (hu : A.units + 64 < cLine) (e : ns = ms) (h : Q (.bool false) s) : wpAny (model prog w) A (compareOp .NotEq (.ref a) (.ref b)) Q E s := by
  obtain ⟨vs, c, hm, hv⟩ := ha
  obtain ⟨us, c', hm', hv'⟩ := hb
  refine ne_intsK (lst_is N hm) hv (lst_is N hm') hv' hu ?_
  rw [decide_eq_true e]
  exact h
theorem lst_eq (N : News h₀ L s.heap news) (ha : ListL news a ns) (hb : ListL news b ms) (hu : A.units + 64 < cLine) (e : ns = ms) (h : Q (.bool true) s) : wpAny (model prog w) A (compareOp .Eq (.ref a) (.ref b)) Q E s := by
  obtain ⟨vs, c, hm, hv⟩ := ha
  obtain ⟨us, c', hm', hv'⟩ := hb
  refine eq_intsK (lst_is N hm) hv (lst_is N hm') hv' hu ?_
  rw [decide_eq_true e]
  exact h
end

theorem regroup2 {h₀ h : Heap} {L : Addr} {tl nw : List (Addr × Obj)} {c : Addr × Obj} (N : News h₀ L h (tl ++ c :: nw)) (o : ∀ p ∈ tl, p.1 ≠ c.1) (oc : ∀ p ∈ nw, p.1 ≠ c.1) :
    ∃ nw', News h₀ L h (c :: nw') ∧ (∀ p ∈ nw', p.1 ≠ c.1) ∧ (∀ p ∈ tl ++ c :: nw, p ∈ nw' ∨ p = c) ∧ (∀ p ∈ nw, p ∈ nw') := by
  refine ⟨tl ++ nw, fun p hp => N p (mem_mid hp), fun p hp => ?_, fun p hp => mem_mid' hp, fun p hp => List.mem_append_right _ hp⟩
  rcases List.mem_append.mp hp with hp | hp
  · exact o p hp
  · exact oc p hp

end Mine

namespace Mine
open PySem.Calls PyProof.V PySem.Spec PyProof.Rows.LCg
local macro_rules | `(tactic| k_all) => `(tactic| first | (with_reducible assumption) | exact ne_of_lts (by with_reducible assumption) | exact ne_of_allLt (by with_reducible assumption))
local macro_rules | `(tactic| walk_at "UnrEnd") => `(tactic| (k_here; refine Hold.out ?_))
local macro_rules | `(tactic| walk_at "call ref") => `(tactic| (k_here; refine Hold.out ?_))
local macro_rules | `(tactic| walk_at "call type:dict") => `(tactic| (k_here; refine Hold.out ?_))
local macro_rules | `(tactic| walk_at "eval ListComp") => `(tactic| (k_here; refine Hold.out ?_))
local macro_rules | `(tactic| walk_at "KrsRest") => `(tactic| (k_here; refine Hold.out ?_))
local macro_rules | `(tactic| walk_at "call type:range") => `(tactic| (k_here; (have hNN' : NowHold := by with_reducible assumption); clear hNN'; refine Hold.out ?_))

local macro_rules | `(tactic| walk_at "subscriptTail") => `(tactic| (k_here; refine Hold.out ?_))
local macro_rules | `(tactic| walk_at "subscriptTail Name BinOp ref int") => `(tactic| (k_here; refine Hold.out ?_))
local macro_rules | `(tactic| walk_at "call builtin:len") => `(tactic| (k_here; refine Hold.out ?_))
local macro_rules | `(tactic| walk_at "binaryOp Mult int int") => `(tactic| (k_here; refine Hold.out ?_))
local macro_rules | `(tactic| walk_at "binaryOp Mod int int") => `(tactic| (k_here; refine Hold.out ?_))

local macro_rules | `(tactic| k_mem) => `(tactic| with_reducible assumption)
noncomputable def sumsL : List Int := [0, 1, 3, 6, 10, 15, 21]
theorem reset_B2 : True := by
  w_top off
  trivial
theorem bis_lo_nat : ∀ i : Nat, i < 9 → 0 ≤ bisF sumsL (i : Int) := by decide +kernel
theorem bis_lo (i : Int) (h : 0 ≤ i) (h9 : i < 9) : 0 ≤ bisF sumsL i := by
  obtain ⟨n, rfl⟩ := Int.eq_ofNat_of_zero_le h
  exact bis_lo_nat n (by omega)
theorem num_turn (w : World) (mean : ExcName → Option Value) (mg mb : Str → Option Value) (fa wc L lS lR : Addr) (h₀ : Heap) (m : Str → Option Value) (news : List (Addr × Obj)) (s : Shared) (Q : Flow → Shared → Prop) (E : Value → Shared → Prop) (row : List Int) (i : Int) (t : Tok)
    (B : Below callerA h₀ [] h₀) (F : Fr h₀ L s.heap (fun y => if y = Str.ofString "number" then some (.int i t) else m y)) (X : (hd.heap_39 w.params).In h₀) (N : News h₀ L s.heap news) (T : Top hd.view_39 LO mean mg mb h₀)
    (hS : ListL news lS sumsL) (hR : ListL news lR row) (hmR : m (Str.ofString "row") = some (.ref lR)) (hmS : m (Str.ofString "sums") = some (.ref lS)) (i0 : 0 ≤ i) (i9 : i < 9) (ir : i < (row.length : Int))
    (hrow : row.getD i.toNat 0 = if bisF sumsL i < 7 ∧ sumsL.getD (bisF sumsL i).toNat 0 = i then (2 * bisF sumsL i + 1) * (1 - 2 * (bisF sumsL i).fmod 2) else 0)
    (k : ∀ h' tk' m', Fr h₀ L h' m' → News h₀ L h' news → m' (Str.ofString "row") = some (.ref lR) → m' (Str.ofString "sums") = some (.ref lS) → m' (Str.ofString "bound") = m (Str.ofString "bound") →
      m' (Str.ofString "once") = m (Str.ofString "once") → m' (Str.ofString "twice") = m (Str.ofString "twice") → m' (Str.ofString "third") = m (Str.ofString "third") → Q .next { s with heap := h', toks := tk' }) :
    wpAny (model PG w) (lawA L fa wc) (execs numBody (lawEnv L fa wc)) Q E s := by
  have kf : PySem.Challenge.rw_gz0002_01.row.prog = PySem.Challenge.rw_gz0002_01.row.prog ∧ Mine.hd.heap_39 = Mine.hd.heap_39 := by k_fill; exact ⟨rfl, rfl⟩
  clear kf
  obtain ⟨vsS, cS, hmS9, hvS⟩ := id hS
  obtain ⟨vsR, cR, hmR9, hvR⟩ := id hR
  dsimp only [numBody, lawA, lawEnv, st, lawBody, lawScope, lawDef, PySem.Challenge.pw_gz0002_01, lastOf, bodyOf, scopeOf, forBody, List.drop, List.headD]
  replace F := fr_pin2 F (x := Str.ofString "row") (v := .ref lR) (x2 := Str.ofString "sums") (v2 := .ref lS) (by rw [if_neg (by decide)]; exact hmR) (by rw [if_neg (by decide)]; exact hmS)
  have z7 : sumsL.length = 7 := rfl
  k_steps
  refine Hold.mk ?_
  refine (bisect_spec w _ _ _ lS sumsL i _) _ _ _ _ _ _ _ _ _ _ _ _ _ _ _ _ _ _ B F X N T rfl ?q1 ?q2 ⟨hS, by decide⟩ ?_
  case q1 => ktr_room
  case q2 => ktr_units
  rintro r9 tl9 h9 tk9 F9 N9 o9 ⟨t9, rfl⟩
  replace N9 : News h₀ L h9 news := fun p hp => N9 p (List.mem_append_right _ hp)
  clear F N o9
  have pl0 : 0 ≤ bisF sumsL i := bis_lo i i0 i9
  generalize bisF sumsL i = pl at hrow pl0
  by_cases hp1 : pl < 7
  · by_cases hp2 : sumsL.getD pl.toNat 0 = i
    · rw [if_pos ⟨hp1, hp2⟩] at hrow
      k_steps
      refine Hold.mk ?_
      rename_i h10 F10 N10
      refine lst_len N10 hmS9 hvS (by decide) ?_
      rw [z7]
      k_steps
      refine Hold.mk ?_
      refine lst_item N10 hmS9 hvS pl0 (by rw [z7]; exact hp1) (Int.lt_trans hp1 (by decide)) (fun t11 => ?_)
      rw [hp2]
      k_steps
      refine Hold.mk ?_
      rename_i h12 F12 N12
      refine lst_item N12 hmR9 hvR i0 ir (Int.lt_trans i9 (by decide)) (fun t13 => ?_)
      rw [hrow]
      clear hrow
      rw [beq_self_eq_true] at F12
      k_steps
      refine Hold.mk ?_
      refine mul_int ?_ (IntMulOk.of_left (intBits_le_64 (by omega) (by omega)))
      dsimp only
      k_steps
      refine Hold.mk ?_
      refine mod_int' (by decide) ?_
      k_steps
      refine Hold.mk ?_
      refine mul_int ?_ (IntMulOk.of_left (intBits_le_64 (by omega) (by omega)))
      dsimp only
      k_steps
      refine Hold.mk ?_
      refine mul_int ?_ (IntMulOk.of_left (intBits_le_64 (by omega) (by omega)))
      dsimp only
      refine ne_same ?_
      k_steps
      exact k _ _ _ F12 N12 rfl rfl rfl rfl rfl rfl
    · rw [if_neg (fun q => hp2 q.2)] at hrow
      k_steps
      refine Hold.mk ?_
      rename_i h10 F10 N10
      refine lst_len N10 hmS9 hvS (by decide) ?_
      rw [z7]
      k_steps
      refine Hold.mk ?_
      refine lst_item N10 hmS9 hvS pl0 (by rw [z7]; exact hp1) (Int.lt_trans hp1 (by decide)) (fun t11 => ?_)
      dsimp only
      have hne : (sumsL.getD pl.toNat 0 == i) = false := by simpa using hp2
      k_steps
      refine Hold.mk ?_
      rename_i h12 F12 N12
      refine lst_item N12 hmR9 hvR i0 ir (Int.lt_trans i9 (by decide)) (fun t13 => ?_)
      rw [hrow]
      clear hrow
      rw [hne] at F12
      k_steps
      exact k _ _ _ F12 N12 rfl rfl rfl rfl rfl rfl
  · rw [if_neg (fun q => hp1 q.1)] at hrow
    k_steps
    refine Hold.mk ?_
    rename_i h10 F10 N10
    refine lst_len N10 hmS9 hvS (by decide) ?_
    rw [z7]
    k_steps
    refine Hold.mk ?_
    rename_i h12 F12 N12
    refine lst_item N12 hmR9 hvR i0 ir (Int.lt_trans i9 (by decide)) (fun t13 => ?_)
    rw [hrow]
    clear hrow
    k_steps
    exact k _ _ _ F12 N12 rfl rfl rfl rfl rfl rfl

end Mine

namespace Mine
open PySem.Calls PyProof.V PySem.Spec PyProof.Rows.LCg
local macro_rules | `(tactic| k_all) => `(tactic| first | (with_reducible assumption) | exact ne_of_lts (by with_reducible assumption) | exact ne_of_allLt (by with_reducible assumption))
local macro_rules | `(tactic| k_mem) => `(tactic| with_reducible assumption)
local macro_rules | `(tactic| walk_at "call ref") => `(tactic| (k_here; refine Hold.out ?_))
local macro_rules | `(tactic| walk_at "call type:dict") => `(tactic| (k_here; refine Hold.out ?_))
local macro_rules | `(tactic| walk_at "eval ListComp") => `(tactic| (k_here; k_dflt (refine ListComp_U (F₀ := by k_asm) (by with_unfolding_all rfl) (by decide) (by rfl) (by decide) (by rfl) ?_)))
local macro_rules | `(tactic| walk_at "CompSrc") => `(tactic| (k_here; refine Hold.out ?_))

noncomputable def hvP (k : Int) : Int × Int := ((k * (3 * k - 1)).fdiv 2, 1 - 2 * k.fmod 2)
noncomputable def hvL (n : Nat) : List (Int × Int) := (rangeKs (0 - 4) n).map hvP
theorem reset_B3 : True := by
  w_top off
  trivial
theorem seg7 (w : World) (mean : ExcName → Option Value) (mg mb : Str → Option Value) (fa wc L : Addr) (h₀ : Heap) (m : Str → Option Value) (cO : Obj) (nw : List (Addr × Obj)) (s : Shared) (Q : Flow → Shared → Prop) (E : Value → Shared → Prop) (rest : List Stmt)
    (B : Below callerA h₀ [] h₀) (F : Fr h₀ L s.heap m) (X : (hd.heap_39 w.params).In h₀) (N : News h₀ L s.heap ((L + 1, cO) :: nw)) (T : Top hd.view_39 LO mean mg mb h₀) (oc : ∀ p ∈ nw, p.1 ≠ L + 1) (hc : cO.data = .cell none)
    (k : ∀ h' tk' D cO' nw', Fr h₀ L h' m → News h₀ L h' ((L + 1, cO') :: nw') → (∀ p ∈ nw', p.1 ≠ L + 1) → (∀ p ∈ nw, p ∈ nw') → cO'.data = .cell (some (.ref D)) → ITabL PG w nw' D (hvL 9) → wpAny (model PG w) (lawA L fa wc) (execs rest (lawEnv L fa wc)) Q E { s with heap := h', toks := tk' }) :
    wpAny (model PG w) (lawA L fa wc) (execs (st 7 :: rest) (lawEnv L fa wc)) Q E s := by
  have kf : PySem.Challenge.rw_gz0002_01.row.prog = PySem.Challenge.rw_gz0002_01.row.prog ∧ Mine.hd.heap_39 = Mine.hd.heap_39 := by k_fill; exact ⟨rfl, rfl⟩
  clear kf
  dsimp only [numBody, lawA, lawEnv, st, lawBody, lawScope, lawDef, PySem.Challenge.pw_gz0002_01, lastOf, bodyOf, scopeOf, forBody, List.drop, List.headD]
  k_steps
  rename_i h2 tk2 t2 u2 v2 R F2 N2 K2
  refine Hold.mk ?_
  refine CompSrc.range (n := 9) (by rfl) F2 N2 R (by decide) (by decide) (by rw [PySem.sizeLine_eq]; omega) ?_
  intro g2
  refine comp_rest (fun i ys nx => ∃ tl, nx = tl ++ ((L + 1, cO) :: nw) ∧ (∀ p ∈ tl, p.1 ≠ L + 1) ∧ IPairsL nx ys (hvL i)) ?turn ?fin ⟨[], rfl, fun _ hp => (nomatch hp), .nil⟩
  case turn =>
    rintro i v ys nx I oI C oC D m2 h tk E' hi ⟨t, rfl⟩ ⟨tl, rfl, otl, P⟩ hC hx F N off ne
    generalize hk : (0 - 4 : Int) + (i : Int) = k at hx
    have k0 : -4 ≤ k := by omega
    have k9 : k < 5 := by omega
    k_steps
    rename_i T7 h7 F7 N7 l7
    obtain ⟨l71, l72, l73, l74⟩ := id l7
    have l74' := ktn_ltOf l74
    obtain ⟨oT, u5, t5, N7, hcT, hdT⟩ : ∃ oT u t, News h₀ L h7 ((T7, oT) :: (I, oI) :: (C, oC) :: (D, lst ys) :: (tl ++ (L + 1, cO) :: nw)) ∧ oT.cls = .type "tuple" ∧ oT.data = .seq #[.int (hvP k).1 u, .int (hvP k).2 t] 0 := ⟨_, _, _, N7, rfl, rfl⟩
    refine CompEnd.intro F7 N7 ((T7, oT) :: (tl ++ (L + 1, cO) :: nw)) (fun p hp => ?_) ⟨⟨Nat.ne_of_gt l71, Nat.ne_of_gt l72, Nat.ne_of_gt l73⟩, off⟩ trivial ⟨(T7, oT) :: tl, rfl, fun p hp => ?_, ?_⟩
    · simp only [List.mem_cons, List.mem_append] at hp ⊢; grind
    · rcases List.mem_cons.mp hp with rfl | hp
      · exact Nat.ne_of_gt (l74' (L + 1, cO) (by simp))
      · exact otl p hp
    · have e : hvL (i + 1) = hvL i ++ [((hvP k).1, (hvP k).2)] := by
        unfold hvL
        rw [rangeKs_snoc, List.map_append, hk]
        rfl
      rw [e]
      exact (P.mono fun p hp => List.mem_cons_of_mem _ hp).append (.cons List.mem_cons_self hcT hdT .nil)
  case fin =>
    rintro ys nx ⟨tl, rfl, otl, P⟩
    intro D h tk F N O
    k_steps
    refine Hold.mk ?_
    refine d_itab (kvs := hvL 9) (by rfl) F N (Top.nolimit T) List.mem_cons_self (P.mono fun p hp => List.mem_cons_of_mem _ hp) (by decide +kernel) (by rw [PySem.sizeLine_eq]; decide +kernel) fun D4 oD4 h4 tk4 F4 N4 l4 T4 => ?_
    have O' := off1_mem O
    have N5 : News h₀ L h4 ((L + 1, cO) :: ((D4, oD4) :: (D, lst ys) :: (tl ++ nw))) := fun p hp => N4 p (mem_mid (pre := (D4, oD4) :: (D, lst ys) :: tl) hp)
    have oc5 : ∀ p ∈ (D4, oD4) :: (D, lst ys) :: (tl ++ nw), p.1 ≠ L + 1 := fun p hp => by
      simp only [List.mem_cons, List.mem_append] at hp
      rcases hp with rfl | rfl | hp | hp
      · exact Nat.ne_of_gt (l4 (L + 1, cO) (by simp))
      · exact fun e => O' (L + 1, cO) (by simp) e.symm
      · exact otl p hp
      · exact oc p hp
    have T5 : ITabL PG w ((D4, oD4) :: (D, lst ys) :: (tl ++ nw)) D4 (hvL 9) := ITabL.dropCell T4 hc fun p hp => mem_mid' (pre := (D4, oD4) :: (D, lst ys) :: tl) hp
    have up5 : ∀ p ∈ nw, p ∈ (D4, oD4) :: (D, lst ys) :: (tl ++ nw) := fun p hp => by simp [hp]
    clear F N F2 N2 N4 K2 R l4 P O O'
    generalize (D4, oD4) :: (D, lst ys) :: (tl ++ nw) = nw5 at N5 oc5 T5 up5
    k_steps
    rename_i h6 o6 F6 N6 d6
    exact k _ _ _ _ _ F6 N6 oc5 up5 d6 T5

end Mine

namespace Mine
open PySem.Calls PyProof.V PySem.Spec PyProof.Rows.LCg
local macro_rules | `(tactic| k_all) => `(tactic| first | (with_reducible assumption) | exact ne_of_lts (by with_reducible assumption) | exact ne_of_allLt (by with_reducible assumption))
local macro_rules | `(tactic| k_mem) => `(tactic| with_reducible assumption)
local macro_rules | `(tactic| walk_at "call ref") => `(tactic| (k_here; refine Hold.out ?_))
local macro_rules | `(tactic| walk_at "call type:dict") => `(tactic| (k_here; refine Hold.out ?_))
local macro_rules | `(tactic| walk_at "eval ListComp") => `(tactic| (k_here; k_dflt (refine ListComp_U (F₀ := by k_asm) (by with_unfolding_all rfl) (by decide) (by rfl) (by decide) (by rfl) ?_)))
local macro_rules | `(tactic| walk_at "CompSrc") => `(tactic| (k_here; refine Hold.out ?_))

local macro_rules | `(tactic| walk_at "getMethod ref") => `(tactic| (k_here; k_dflt (first
  | ((with_reducible show wpAny _ _ (getMethod (Value.ref _) (Str.ofString "get") _) _ _ _); (refine' rdN_method PySem.F.slot_dict_get PySem.F.type_dict_get ?N ?p ?r ?_; (case N => k_asm); (case p => kcf_m); (case r => with_reducible assumption))))))
local macro_rules | `(tactic| walk_at "call builtin:dict.get") => `(tactic| (k_here; k_dflt (refine' it_get ?N ?T ?_; (case N => k_asm); (case T => exact ITabL.mono (by with_reducible assumption) (by intro p hp; kcf_m)); intro t')))
local macro_rules | `(tactic| walk_at "compareOp NotEq ref ref") => `(tactic| (k_here; refine Hold.out ?_))
local macro_rules | `(tactic| walk_at "compareOp Eq ref ref") => `(tactic| (k_here; refine Hold.out ?_))

theorem reset_B5 : True := by
  w_top off
  trivial
theorem seg8 (w : World) (mean : ExcName → Option Value) (mg mb : Str → Option Value) (fa wc L : Addr) (h₀ : Heap) (m : Str → Option Value) (cO : Obj) (nw : List (Addr × Obj)) (s : Shared) (Q : Flow → Shared → Prop) (E : Value → Shared → Prop) (rest : List Stmt) (b : Int) (tb : Tok) (d1 d2 d3 lR dH : Addr) (t1 : List (Int × Int))
    (B : Below callerA h₀ [] h₀) (F : Fr h₀ L s.heap m) (X : (hd.heap_39 w.params).In h₀) (N : News h₀ L s.heap ((L + 1, cO) :: nw)) (T : Top hd.view_39 LO mean mg mb h₀) (oc : ∀ p ∈ nw, p.1 ≠ L + 1) (hc : cO.data = .cell (some (.ref dH)))
    (hl : Loc m b tb d1 d2 d3 lR) (TH : ITabL PG w nw dH (hvL 9)) (T1 : TabL PG w nw d1 t1) (b3 : 3 ≤ b) (b8 : b ≤ 8) (hrow : rowF t1 b = (rangeKs 0 (b + 1).toNat).map fun k => (getT (hvL 9) k).getD 0)
    (k : ∀ h' tk' m' nw', Fr h₀ L h' m' → Loc m' b tb d1 d2 d3 lR → News h₀ L h' ((L + 1, cO) :: nw') → (∀ p ∈ nw', p.1 ≠ L + 1) → (∀ p ∈ nw, p ∈ nw') → wpAny (model PG w) (lawA L fa wc) (execs rest (lawEnv L fa wc)) Q E { s with heap := h', toks := tk' }) :
    wpAny (model PG w) (lawA L fa wc) (execs (st 8 :: rest) (lawEnv L fa wc)) Q E s := by
  have kf : PySem.Challenge.rw_gz0002_01.row.prog = PySem.Challenge.rw_gz0002_01.row.prog ∧ Mine.hd.heap_39 = Mine.hd.heap_39 := by k_fill; exact ⟨rfl, rfl⟩
  clear kf
  dsimp only [numBody, lawA, lawEnv, st, lawBody, lawScope, lawDef, PySem.Challenge.pw_gz0002_01, lastOf, bodyOf, scopeOf, forBody, List.drop, List.headD]
  replace F := fr_loc F hl
  k_steps
  refine Hold.mk ?_
  refine (row_spec w _ _ _ d1 t1 b _) _ _ _ _ _ _ _ _ _ _ _ _ _ _ _ _ _ _ B F X N T rfl ?r9 ?r10 ⟨T1.mono fun p hp => List.mem_cons_of_mem _ hp, b3, b8⟩ ?_
  case r9 => ktr_room
  case r10 => ktr_units
  rintro r4 tl4 h4 tk4 F7 N7 o7 ⟨l8, rfl, L8⟩
  clear F N
  obtain ⟨nw4, N7, oc4, sp, up⟩ := regroup2 N7 (fun p hp => o7 _ List.mem_cons_self p hp) oc
  replace L8 := L8.dropCell hc sp
  replace TH := TH.mono up
  obtain ⟨loH, oH, xH, hmH, iH, vH⟩ := id TH
  obtain ⟨esH, epH, exH, dH', _⟩ := id iH
  have rH : RawD oH esH epH := ⟨exH, dH'⟩
  clear o7 sp
  k_steps
  rename_i h5 tk5 t5 u5 v5 R F5 N5 K5
  refine Hold.mk ?_
  refine CompSrc.range (n := (b + 1).toNat) (by rfl) F5 N5 R (small_one (by omega) (by omega) (by omega) (by omega)) ((rangeSize_nat _ _).trans (congrArg Nat.cast (congrArg Int.toNat (show b + 1 - 0 = b + 1 by omega)))) (by rw [PySem.sizeLine_eq]; omega) ?_
  intro g2
  refine kcf_range (fun k => (getT (hvL 9) k).getD 0) (fun k t I oI C oC2 D m2 ys h tk E' hlo hhi hC hx F N off ne mk => ?_) ?_
  · k_steps
  · unfold KPfDone
    intro ys hi D h6 tk6 F6 N6 O6
    k_steps
    refine Hold.mk ?_
    dsimp only
    obtain ⟨oDL, O6'⟩ := O6
    have O7 := off1_mem O6'
    refine lst_ne N6 (L8.mono fun p hp => List.mem_cons_of_mem _ (List.mem_cons_of_mem _ hp)) ⟨ys, _, List.mem_cons_self, hi⟩ (by units_room) hrow ?_
    k_steps
    refine k _ _ _ ((D, lst ys) :: nw4) F6 ⟨rfl, rfl, rfl, rfl, rfl⟩ (fun p hp => N6 p (mem_mid (pre := [(D, lst ys)]) hp)) (fun p hp => ?_) (fun p hp => List.mem_cons_of_mem _ (up p hp))
    rcases List.mem_cons.mp hp with rfl | hp
    · exact Ne.symm oDL
    · exact oc4 p hp

end Mine

namespace Mine
open PySem.Calls PyProof.V PySem.Spec PyProof.Rows.LCg
local macro_rules | `(tactic| k_all) => `(tactic| first | (with_reducible assumption) | exact ne_of_lts (by with_reducible assumption) | exact ne_of_allLt (by with_reducible assumption))
local macro_rules | `(tactic| k_mem) => `(tactic| with_reducible assumption)
local macro_rules | `(tactic| walk_at "call ref") => `(tactic| (k_here; refine Hold.out ?_))
local macro_rules | `(tactic| walk_at "call type:dict") => `(tactic| (k_here; refine Hold.out ?_))
local macro_rules | `(tactic| walk_at "eval ListComp") => `(tactic| (k_here; k_dflt (refine ListComp_U (F₀ := by k_asm) (by with_unfolding_all rfl) (by decide) (by rfl) (by decide) (by rfl) ?_)))
local macro_rules | `(tactic| walk_at "CompSrc") => `(tactic| (k_here; refine Hold.out ?_))

local macro_rules | `(tactic| walk_at "getMethod ref") => `(tactic| (k_here; k_dflt (first
  | ((with_reducible show wpAny _ _ (getMethod (Value.ref _) (Str.ofString "get") _) _ _ _); (refine' rdN_method PySem.F.slot_dict_get PySem.F.type_dict_get ?N ?p ?r ?_; (case N => k_asm); (case p => kcf_m); (case r => with_reducible assumption))))))
local macro_rules | `(tactic| walk_at "call builtin:dict.get") => `(tactic| (k_here; k_dflt (refine' it_get ?N ?T ?_; (case N => k_asm); (case T => exact ITabL.mono (by with_reducible assumption) (by intro p hp; kcf_m)); intro t')))
local macro_rules | `(tactic| walk_at "compareOp NotEq ref ref") => `(tactic| (k_here; refine Hold.out ?_))
local macro_rules | `(tactic| walk_at "compareOp Eq ref ref") => `(tactic| (k_here; refine Hold.out ?_))

local macro_rules | `(tactic| walk_at "compareOp NotEq int int") => `(tactic| (k_here; refine Hold.out ?_))
local macro_rules | `(tactic| walk_at "call builtin:sum") => `(tactic| (k_here; refine Hold.out ?_))
theorem reset_B6 : True := by
  w_top off
  trivial
theorem seg9 (w : World) (mean : ExcName → Option Value) (mg mb : Str → Option Value) (fa wc L : Addr) (h₀ : Heap) (m : Str → Option Value) (cO : Obj) (nw : List (Addr × Obj)) (s : Shared) (Q : Flow → Shared → Prop) (E : Value → Shared → Prop) (rest : List Stmt) (b : Int) (tb : Tok) (d1 d2 d3 lR : Addr) (t1 t2 t3 : List (Int × Int)) (row : List Int) (cv : Option Value)
    (B : Below callerA h₀ [] h₀) (F : Fr h₀ L s.heap m) (X : (hd.heap_39 w.params).In h₀) (N : News h₀ L s.heap ((L + 1, cO) :: nw)) (T : Top hd.view_39 LO mean mg mb h₀) (oc : ∀ p ∈ nw, p.1 ≠ L + 1) (hc : cO.data = .cell cv)
    (hl : Loc m b tb d1 d2 d3 lR) (T1 : TabL PG w nw d1 t1) (T2 : TabL PG w nw d2 t2) (T3 : TabL PG w nw d3 t3) (LR : ListL nw lR row)
    (hsum : sumT t3 = row.sum) (s1 : Small t1) (z1 : t1.length ≤ 64) (z2 : t2.length ≤ 64) (zq : (timesF t1 t2 b).length = t3.length) (hq : ∀ p ∈ timesF t1 t2 b, getT t3 p.1 = some p.2)
    (k : ∀ h' tk' m' nw', Fr h₀ L h' m' → Loc m' b tb d1 d2 d3 lR → News h₀ L h' ((L + 1, cO) :: nw') → (∀ p ∈ nw', p.1 ≠ L + 1) → (∀ p ∈ nw, p ∈ nw') → wpAny (model PG w) (lawA L fa wc) (execs rest (lawEnv L fa wc)) Q E { s with heap := h', toks := tk' }) :
    wpAny (model PG w) (lawA L fa wc) (execs (st 9 :: rest) (lawEnv L fa wc)) Q E s := by
  have kf : PySem.Challenge.rw_gz0002_01.row.prog = PySem.Challenge.rw_gz0002_01.row.prog ∧ Mine.hd.heap_39 = Mine.hd.heap_39 := by k_fill; exact ⟨rfl, rfl⟩
  clear kf
  dsimp only [numBody, lawA, lawEnv, st, lawBody, lawScope, lawDef, PySem.Challenge.pw_gz0002_01, lastOf, bodyOf, scopeOf, forBody, List.drop, List.headD]
  replace F := fr_loc F hl
  obtain ⟨vsR, cR, hmR, hvR⟩ := id LR
  k_steps
  refine Hold.mk ?_
  refine (count_spec w _ _ _ d3 t3) _ _ _ _ _ _ _ _ _ _ _ _ _ _ _ _ _ _ B F X N T rfl ?r1 ?r2 (T3.mono fun p hp => List.mem_cons_of_mem _ hp) ?_
  case r1 => ktr_room
  case r2 => ktr_units
  rintro r4 tl4 h4 tk4 F7 N7 o7 ⟨tc, rfl⟩
  replace N7 : News h₀ L h4 ((L + 1, cO) :: nw) := fun p hp => N7 p (List.mem_append_right _ hp)
  clear F N o7
  rw [hsum]
  k_steps
  refine Hold.mk ?_
  refine lst_sum F7 N7 (by rfl) (List.mem_cons_of_mem _ hmR) hvR fun h6 tk6 t6 F6 N6 => ?_
  k_steps
  refine Hold.mk ?_
  refine ne_same ?_
  k_steps
  refine Hold.mk ?_
  refine (times_spec w _ _ _ d1 d2 t1 t2 b _) _ _ _ _ _ _ _ _ _ _ _ _ _ _ _ _ _ _ B F6 X N6 T rfl ?r5 ?r6 ⟨T1.mono fun p hp => List.mem_cons_of_mem _ hp, T2.mono fun p hp => List.mem_cons_of_mem _ hp, s1, z1, z2⟩ ?_
  case r5 => ktr_room
  case r6 => ktr_units
  rintro r8 tl8 h8 tk8 F8 N8 o8 ⟨d8, rfl, T8⟩
  clear F6 N6 F7 N7
  obtain ⟨nw8, N8, oc8, sp, up⟩ := regroup2 N8 (fun p hp => Nat.ne_of_gt (o8 _ List.mem_cons_self p hp)) oc
  replace T8 := T8.dropCell hc sp
  clear o8 sp
  k_steps
  refine Hold.mk ?_
  refine tb_ne (by units_room) N8 (T8.mono fun p hp => List.mem_cons_of_mem _ hp) ((T3.mono up).mono fun p hp => List.mem_cons_of_mem _ hp) zq hq ?_
  k_steps
  exact k _ _ _ nw8 F8 ⟨rfl, rfl, rfl, rfl, rfl⟩ N8 oc8 up

end Mine

namespace Mine
open PySem.Calls PyProof.V PySem.Spec PyProof.Rows.LCg
local macro_rules | `(tactic| k_all) => `(tactic| first | (with_reducible assumption) | exact ne_of_lts (by with_reducible assumption) | exact ne_of_allLt (by with_reducible assumption))
local macro_rules | `(tactic| k_mem) => `(tactic| with_reducible assumption)
local macro_rules | `(tactic| walk_at "call ref") => `(tactic| (k_here; refine Hold.out ?_))
local macro_rules | `(tactic| walk_at "call type:dict") => `(tactic| (k_here; refine Hold.out ?_))
local macro_rules | `(tactic| walk_at "eval ListComp") => `(tactic| (k_here; k_dflt (refine ListComp_U (F₀ := by k_asm) (by with_unfolding_all rfl) (by decide) (by rfl) (by decide) (by rfl) ?_)))
local macro_rules | `(tactic| walk_at "CompSrc") => `(tactic| (k_here; refine Hold.out ?_))

local macro_rules | `(tactic| walk_at "getMethod ref") => `(tactic| (k_here; k_dflt (first
  | ((with_reducible show wpAny _ _ (getMethod (Value.ref _) (Str.ofString "get") _) _ _ _); (refine' rdN_method PySem.F.slot_dict_get PySem.F.type_dict_get ?N ?p ?r ?_; (case N => k_asm); (case p => kcf_m); (case r => with_reducible assumption))))))
local macro_rules | `(tactic| walk_at "call builtin:dict.get") => `(tactic| (k_here; k_dflt (refine' it_get ?N ?T ?_; (case N => k_asm); (case T => exact ITabL.mono (by with_reducible assumption) (by intro p hp; kcf_m)); intro t')))
local macro_rules | `(tactic| walk_at "compareOp NotEq ref ref") => `(tactic| (k_here; refine Hold.out ?_))
local macro_rules | `(tactic| walk_at "compareOp Eq ref ref") => `(tactic| (k_here; refine Hold.out ?_))

theorem reset_B7 : True := by
  w_top off
  trivial
theorem seg10 (w : World) (mean : ExcName → Option Value) (mg mb : Str → Option Value) (fa wc L : Addr) (h₀ : Heap) (m : Str → Option Value) (cO : Obj) (nw : List (Addr × Obj)) (s : Shared) (Q : Flow → Shared → Prop) (E : Value → Shared → Prop) (rest : List Stmt) (b : Int) (tb : Tok) (d1 d2 d3 lR : Addr) (t1 : List (Int × Int)) (row : List Int) (cv : Option Value)
    (B : Below callerA h₀ [] h₀) (F : Fr h₀ L s.heap m) (X : (hd.heap_39 w.params).In h₀) (N : News h₀ L s.heap ((L + 1, cO) :: nw)) (T : Top hd.view_39 LO mean mg mb h₀) (oc : ∀ p ∈ nw, p.1 ≠ L + 1) (hc : cO.data = .cell cv)
    (hl : Loc m b tb d1 d2 d3 lR) (T1 : TabL PG w nw d1 t1) (LR : ListL nw lR row) (b3 : 3 ≤ b) (b8 : b ≤ 8) (ok1 : OtherOk (rowF t1 b)) (ok2 : OtherOk row)
    (k : ∀ h' tk' m' nw' lW lT, Fr h₀ L h' m' → Loc m' b tb d1 d2 d3 lR → m' (Str.ofString "ways") = some (.ref lW) → m' (Str.ofString "threes") = some (.ref lT) → News h₀ L h' ((L + 1, cO) :: nw') → (∀ p ∈ nw', p.1 ≠ L + 1) → (∀ p ∈ nw, p ∈ nw') →
      ListL nw' lW (otherN (rowF t1 b) ((rowF t1 b).length - 1)) → ListL nw' lT (otherN row (row.length - 1)) → wpAny (model PG w) (lawA L fa wc) (execs rest (lawEnv L fa wc)) Q E { s with heap := h', toks := tk' }) :
    wpAny (model PG w) (lawA L fa wc) (execs (st 10 :: rest) (lawEnv L fa wc)) Q E s := by
  have kf : PySem.Challenge.rw_gz0002_01.row.prog = PySem.Challenge.rw_gz0002_01.row.prog ∧ Mine.hd.heap_39 = Mine.hd.heap_39 := by k_fill; exact ⟨rfl, rfl⟩
  clear kf
  dsimp only [numBody, lawA, lawEnv, st, lawBody, lawScope, lawDef, PySem.Challenge.pw_gz0002_01, lastOf, bodyOf, scopeOf, forBody, List.drop, List.headD]
  replace F := fr_loc F hl
  k_steps
  refine Hold.mk ?_
  refine (row_spec w _ _ _ d1 t1 b _) _ _ _ _ _ _ _ _ _ _ _ _ _ _ _ _ _ _ B F X N T rfl ?r9 ?r10 ⟨T1.mono fun p hp => List.mem_cons_of_mem _ hp, b3, b8⟩ ?_
  case r9 => ktr_room
  case r10 => ktr_units
  rintro r4 tl4 h4 tk4 F4 N4 o4 ⟨l4, rfl, L4⟩
  clear F N
  obtain ⟨nw4, N4, oc4, sp, up⟩ := regroup2 N4 (fun p hp => o4 _ List.mem_cons_self p hp) oc
  replace L4 := L4.dropCell hc sp
  replace LR := LR.mono up
  clear o4 sp
  k_steps
  refine Hold.mk ?_
  refine (other_spec w _ _ _ l4 (rowF t1 b)) _ _ _ _ _ _ _ _ _ _ _ _ _ _ _ _ _ _ B F4 X N4 T rfl ?r5 ?r6 ⟨L4.mono fun p hp => List.mem_cons_of_mem _ hp, ok1⟩ ?_
  case r5 => ktr_room
  case r6 => ktr_units
  rintro r6 tl6 h6 tk6 F6 N6 o6 ⟨l6, rfl, L6⟩
  clear F4 N4
  obtain ⟨nw6, N6, oc6, sp, up6⟩ := regroup2 N6 (fun p hp => o6 _ List.mem_cons_self p hp) oc4
  replace L6 := L6.dropCell hc sp
  replace LR := LR.mono up6
  clear o6 sp
  k_steps
  refine Hold.mk ?_
  refine (other_spec w _ _ _ lR row) _ _ _ _ _ _ _ _ _ _ _ _ _ _ _ _ _ _ B F6 X N6 T rfl ?r7 ?r8 ⟨LR.mono fun p hp => List.mem_cons_of_mem _ hp, ok2⟩ ?_
  case r7 => ktr_room
  case r8 => ktr_units
  rintro r8 tl8 h8 tk8 F8 N8 o8 ⟨l8, rfl, L8⟩
  clear F6 N6
  obtain ⟨nw8, N8, oc8, sp, up8⟩ := regroup2 N8 (fun p hp => o8 _ List.mem_cons_self p hp) oc6
  replace L8 := L8.dropCell hc sp
  replace L6 := L6.mono up8
  clear o8 sp
  k_steps
  rename_i D9 _ l9 _ _ h9 F9 N9
  dsimp only
  refine k _ _ _ ((D9, _) :: nw8) l6 l8 F9 ⟨rfl, rfl, rfl, rfl, rfl⟩ rfl rfl (fun p hp => N9 p (mem_mid (pre := [(D9, _)]) hp)) (fun p hp => ?_) (fun p hp => List.mem_cons_of_mem _ (up8 p (up6 p (up p hp)))) (L6.mono fun p hp => List.mem_cons_of_mem _ hp) (L8.mono fun p hp => List.mem_cons_of_mem _ hp)
  rcases List.mem_cons.mp hp with rfl | hp
  · exact Nat.ne_of_gt l9.1
  · exact oc8 p hp

end Mine

namespace Mine
open PySem.Calls PyProof.V PySem.Spec PyProof.Rows.LCg
local macro_rules | `(tactic| k_all) => `(tactic| first | (with_reducible assumption) | exact ne_of_lts (by with_reducible assumption) | exact ne_of_allLt (by with_reducible assumption))
local macro_rules | `(tactic| k_mem) => `(tactic| with_reducible assumption)
local macro_rules | `(tactic| walk_at "call ref") => `(tactic| (k_here; refine Hold.out ?_))
local macro_rules | `(tactic| walk_at "call type:dict") => `(tactic| (k_here; refine Hold.out ?_))
local macro_rules | `(tactic| walk_at "eval ListComp") => `(tactic| (k_here; k_dflt (refine ListComp_U (F₀ := by k_asm) (by with_unfolding_all rfl) (by decide) (by rfl) (by decide) (by rfl) ?_)))
local macro_rules | `(tactic| walk_at "CompSrc") => `(tactic| (k_here; refine Hold.out ?_))

local macro_rules | `(tactic| walk_at "getMethod ref") => `(tactic| (k_here; k_dflt (first
  | ((with_reducible show wpAny _ _ (getMethod (Value.ref _) (Str.ofString "get") _) _ _ _); (refine' rdN_method PySem.F.slot_dict_get PySem.F.type_dict_get ?N ?p ?r ?_; (case N => k_asm); (case p => kcf_m); (case r => with_reducible assumption))))))
local macro_rules | `(tactic| walk_at "call builtin:dict.get") => `(tactic| (k_here; k_dflt (refine' it_get ?N ?T ?_; (case N => k_asm); (case T => exact ITabL.mono (by with_reducible assumption) (by intro p hp; kcf_m)); intro t')))
local macro_rules | `(tactic| walk_at "compareOp NotEq ref ref") => `(tactic| (k_here; refine Hold.out ?_))
local macro_rules | `(tactic| walk_at "compareOp Eq ref ref") => `(tactic| (k_here; refine Hold.out ?_))

local macro_rules | `(tactic| walk_at "eval ListComp") => `(tactic| (k_here; refine Hold.out ?_))
local macro_rules | `(tactic| walk_at "call type:enumerate") => `(tactic| (k_here; refine Hold.out ?_))
noncomputable def enumT (ws : List Int) (n : Nat) : List (Int × Int) := (List.range n).map fun (i : Nat) => ((i : Int), ws.getD i 0)
theorem reset_B8 : True := by
  w_top off
  trivial
theorem enumT_snoc (ws : List Int) (n : Nat) : enumT ws (n + 1) = enumT ws n ++ [((n : Int), ws.getD n 0)] := by simp [enumT, List.range_succ]
theorem enumT_keys (ws : List Int) (n : Nat) : ((enumT ws n).map (·.1)).Nodup := by
  unfold enumT
  rw [List.map_map]
  exact List.pairwise_map.mpr (List.nodup_range.imp fun h e => h (Int.ofNat.inj e))
theorem seg11 (w : World) (mean : ExcName → Option Value) (mg mb : Str → Option Value) (fa wc L : Addr) (h₀ : Heap) (m : Str → Option Value) (cO : Obj) (nw : List (Addr × Obj)) (s : Shared) (Q : Flow → Shared → Prop) (E : Value → Shared → Prop) (rest : List Stmt) (b : Int) (tb : Tok) (d1 d2 d3 lR lW lT : Addr) (ws : List Int) (cv : Option Value)
    (B : Below callerA h₀ [] h₀) (F : Fr h₀ L s.heap m) (X : (hd.heap_39 w.params).In h₀) (N : News h₀ L s.heap ((L + 1, cO) :: nw)) (T : Top hd.view_39 LO mean mg mb h₀) (oc : ∀ p ∈ nw, p.1 ≠ L + 1) (hc : cO.data = .cell cv)
    (hl : Loc m b tb d1 d2 d3 lR) (hmW : m (Str.ofString "ways") = some (.ref lW)) (hmT : m (Str.ofString "threes") = some (.ref lT)) (LW : ListL nw lW ws) (zw : ws.length ≤ 64)
    (k : ∀ h' tk' m' nw' dT, Fr h₀ L h' m' → Loc m' b tb d1 d2 d3 lR → m' (Str.ofString "ways") = some (.ref lW) → m' (Str.ofString "threes") = some (.ref lT) → m' (Str.ofString "table") = some (.ref dT) → News h₀ L h' ((L + 1, cO) :: nw') → (∀ p ∈ nw', p.1 ≠ L + 1) → (∀ p ∈ nw, p ∈ nw') →
      TabL PG w nw' dT (enumT ws ws.length) → wpAny (model PG w) (lawA L fa wc) (execs rest (lawEnv L fa wc)) Q E { s with heap := h', toks := tk' }) :
    wpAny (model PG w) (lawA L fa wc) (execs (st 11 :: rest) (lawEnv L fa wc)) Q E s := by
  have kf : PySem.Challenge.rw_gz0002_01.row.prog = PySem.Challenge.rw_gz0002_01.row.prog ∧ Mine.hd.heap_39 = Mine.hd.heap_39 := by k_fill; exact ⟨rfl, rfl⟩
  clear kf
  dsimp only [numBody, lawA, lawEnv, st, lawBody, lawScope, lawDef, PySem.Challenge.pw_gz0002_01, lastOf, bodyOf, scopeOf, forBody, List.drop, List.headD]
  replace F := fr_loc (fr_pin2 F hmW hmT) ⟨hl.1, hl.2.1, hl.2.2.1, hl.2.2.2.1, hl.2.2.2.2⟩
  obtain ⟨vs, c, hm9, hv⟩ := id LW
  have zv := hv.length
  k_steps
  refine Hold.mk ?_
  refine bk_enum F (by with_unfolding_all rfl) (by decide) (by rfl) (by decide) (by rfl) (by rfl) (by decide) ?_
  k_steps
  refine Hold.mk ?_
  refine enum_call (fun i ys nx => ∃ tl, nx = tl ++ ((L + 1, cO) :: nw) ∧ (∀ p ∈ tl, p.1 ≠ L + 1) ∧ PairsL PG w nx ys (enumT ws i)) (by rfl) F N (List.mem_cons_of_mem _ hm9) (by rw [PySem.sizeLine_eq]; omega) ⟨[], rfl, fun _ hp => (nomatch hp), .nil⟩ ?turn ?fin
  case turn =>
    rintro e it lit lie i t v2 ys nx own C oC D m2 h tk E' hi hv2 ⟨tl, rfl, otl, P⟩ ap hC hx1 hx2 F3 N3 hCD heC hiC hyl
    unfold ElTurn
    obtain ⟨q, t2, rfl, hq⟩ := IntsAre.at hv i v2 hv2
    rw [List.forIn_nil]
    refine wpAny_pure ?_
    rw [if_pos rfl]
    k_steps
    rename_i T4 h4 F4 N4 l4
    obtain ⟨o4, N4, K4⟩ : ∃ o4, News h₀ L h4 ((T4, o4) :: (own ++ (C, oC) :: (D, lst ys) :: (tl ++ (L + 1, cO) :: nw))) ∧ KeyL PG w ((T4, o4) :: (tl ++ (L + 1, cO) :: nw)) T4 (i : Int) := ⟨_, N4, KeyL.made List.mem_cons_self⟩
    (try clear N3)
    (try clear F3)
    obtain ⟨own2, hown⟩ : ∃ own2, own2 = (T4, o4) :: own := ⟨_, rfl⟩
    replace N4 : News h₀ L h4 (own2 ++ (C, oC) :: (D, lst ys) :: (tl ++ (L + 1, cO) :: nw)) := by rw [hown]; exact N4
    k_steps
    rename_i T5 h5 F5 N5 l5
    subst hown
    obtain ⟨o5, N5, hc5, hd5⟩ : ∃ o5, News h₀ L h5 ((T5, o5) :: (((T4, o4) :: own) ++ (C, oC) :: (D, lst ys) :: (tl ++ (L + 1, cO) :: nw))) ∧ o5.cls = .type "tuple" ∧ o5.data = .seq #[.ref T4, .int q t2] 0 := ⟨_, N5, rfl, rfl⟩
    have g5C : C < T5 := l5 (C, oC) (by simp)
    have g5D : D < T5 := l5 (D, lst ys) (by simp)
    have g4C : C < T4 := l4 (C, oC) (by simp)
    have g4D : D < T4 := l4 (D, lst ys) (by simp)
    have g5L : L + 1 < T5 := l5 (L + 1, cO) (by simp)
    have g4L : L + 1 < T4 := l4 (L + 1, cO) (by simp)
    refine ⟨_, _, (T5, o5) :: (T4, o4) :: (tl ++ (L + 1, cO) :: nw), rfl, F5, fun p hp => N5 p ?_, fun p hp => ?_, (T5, o5) :: (T4, o4) :: tl, rfl, fun p hp => ?_, ?_⟩
    · simp only [List.mem_append, List.mem_cons] at hp ⊢; grind
    · rcases List.mem_cons.mp hp with rfl | hp
      · refine ⟨fun z => ?_, Nat.ne_of_gt g5C, Nat.ne_of_gt g5D⟩
        have z' : T5 = e ∨ T5 = it := by simpa using z
        rcases z' with z | z
        · exact Nat.ne_of_gt (Nat.lt_trans heC g5C) z
        · exact Nat.ne_of_gt (Nat.lt_trans hiC g5C) z
      rcases List.mem_cons.mp hp with rfl | hp
      · refine ⟨fun z => ?_, Nat.ne_of_gt g4C, Nat.ne_of_gt g4D⟩
        have z' : T4 = e ∨ T4 = it := by simpa using z
        rcases z' with z | z
        · exact Nat.ne_of_gt (Nat.lt_trans heC g4C) z
        · exact Nat.ne_of_gt (Nat.lt_trans hiC g4C) z
      · exact ap p hp
    · rcases List.mem_cons.mp hp with rfl | hp
      · exact Nat.ne_of_gt g5L
      rcases List.mem_cons.mp hp with rfl | hp
      · exact Nat.ne_of_gt g4L
      · exact otl p hp
    · have eq : ws.getD i 0 = q := by rw [List.getD_eq_getElem?_getD, hq]; rfl
      rw [enumT_snoc, eq]
      exact (P.mono fun p hp => List.mem_cons_of_mem _ (List.mem_cons_of_mem _ hp)).append (.cons List.mem_cons_self hc5 hd5 (K4.mono fun p hp => List.mem_cons_of_mem _ hp) .nil)
  case fin =>
    rintro D h tk ys nx F3 N3 off3 ⟨tl, rfl, otl, P⟩
    k_steps
    refine Hold.mk ?_
    rw [zv] at P
    have zk : (enumT ws ws.length).length ≤ sizeLine := by rw [PySem.sizeLine_eq]; simp only [enumT, List.length_map, List.length_range]; omega
    refine d_tab (by units_room) rfl F3 N3 (Top.nolimit T) List.mem_cons_self (P.mono fun p hp => List.mem_cons_of_mem _ hp) (enumT_keys _ _) zk fun D3 oD3 h4 tk4 xs4 F4 N4 l4 lo4 T4 => ?_
    k_steps
    rename_i h6 F6 N6
    have T6 : TabL PG w ((D3, oD3) :: (D, lst ys) :: (tl ++ (L + 1, cO) :: nw)) D3 (enumT ws ws.length) := ⟨lo4, oD3, xs4, List.mem_cons_self, T4.mono fun p hp => List.mem_cons_of_mem _ hp⟩
    dsimp only
    refine k _ _ _ ((D3, oD3) :: (D, lst ys) :: (tl ++ nw)) D3 F6 ⟨rfl, rfl, rfl, rfl, rfl⟩ rfl rfl rfl (fun p hp => N6 p (mem_mid (pre := (D3, oD3) :: (D, lst ys) :: tl) hp)) (fun p hp => ?_) (fun p hp => List.mem_cons_of_mem _ (List.mem_cons_of_mem _ (List.mem_append_right _ hp))) (T6.dropCell hc fun p hp => mem_mid' (pre := (D3, oD3) :: (D, lst ys) :: tl) hp)
    simp only [List.mem_cons, List.mem_append] at hp
    rcases hp with rfl | rfl | hp | hp
    · exact Nat.ne_of_gt (l4 (L + 1, cO) (by simp))
    · exact fun e => off3 (L + 1, cO) (by simp) e.symm
    · exact otl p hp
    · exact oc p hp

end Mine

namespace Mine
open PySem.Calls PyProof.V PySem.Spec PyProof.Rows.LCg
local macro_rules | `(tactic| k_all) => `(tactic| first | (with_reducible assumption) | exact ne_of_lts (by with_reducible assumption) | exact ne_of_allLt (by with_reducible assumption))
local macro_rules | `(tactic| k_mem) => `(tactic| with_reducible assumption)
local macro_rules | `(tactic| walk_at "call ref") => `(tactic| (k_here; refine Hold.out ?_))
local macro_rules | `(tactic| walk_at "call type:dict") => `(tactic| (k_here; refine Hold.out ?_))
local macro_rules | `(tactic| walk_at "eval ListComp") => `(tactic| (k_here; k_dflt (refine ListComp_U (F₀ := by k_asm) (by with_unfolding_all rfl) (by decide) (by rfl) (by decide) (by rfl) ?_)))
local macro_rules | `(tactic| walk_at "CompSrc") => `(tactic| (k_here; refine Hold.out ?_))

local macro_rules | `(tactic| walk_at "getMethod ref") => `(tactic| (k_here; k_dflt (first
  | ((with_reducible show wpAny _ _ (getMethod (Value.ref _) (Str.ofString "get") _) _ _ _); (refine' rdN_method PySem.F.slot_dict_get PySem.F.type_dict_get ?N ?p ?r ?_; (case N => k_asm); (case p => kcf_m); (case r => with_reducible assumption))))))
local macro_rules | `(tactic| walk_at "call builtin:dict.get") => `(tactic| (k_here; k_dflt (refine' it_get ?N ?T ?_; (case N => k_asm); (case T => exact ITabL.mono (by with_reducible assumption) (by intro p hp; kcf_m)); intro t')))
local macro_rules | `(tactic| walk_at "compareOp NotEq ref ref") => `(tactic| (k_here; refine Hold.out ?_))
local macro_rules | `(tactic| walk_at "compareOp Eq ref ref") => `(tactic| (k_here; refine Hold.out ?_))

noncomputable abbrev Loc2 (m : Str → Option Value) (b : Int) (tb : Tok) (lW lT dT : Addr) : Prop :=
  m (Str.ofString "bound") = some (.int b tb) ∧ m (Str.ofString "ways") = some (.ref lW) ∧ m (Str.ofString "threes") = some (.ref lT) ∧ m (Str.ofString "table") = some (.ref dT)
theorem reset_B9 : True := by
  w_top off
  trivial
theorem seg12 (w : World) (mean : ExcName → Option Value) (mg mb : Str → Option Value) (fa wc L : Addr) (h₀ : Heap) (m : Str → Option Value) (cO : Obj) (nw : List (Addr × Obj)) (s : Shared) (Q : Flow → Shared → Prop) (E : Value → Shared → Prop) (rest : List Stmt) (b : Int) (tb : Tok) (lW lT dT : Addr) (kT q2 : List (Int × Int)) (th : List Int) (cv : Option Value)
    (B : Below callerA h₀ [] h₀) (F : Fr h₀ L s.heap m) (X : (hd.heap_39 w.params).In h₀) (N : News h₀ L s.heap ((L + 1, cO) :: nw)) (T : Top hd.view_39 LO mean mg mb h₀) (oc : ∀ p ∈ nw, p.1 ≠ L + 1) (hc : cO.data = .cell cv)
    (hl : Loc2 m b tb lW lT dT) (TT : TabL PG w nw dT kT) (LT : ListL nw lT th) (b3 : 3 ≤ b) (b8 : b ≤ 8)
    (s1 : Small kT) (z1 : kT.length ≤ 64) (e2 : timesF kT kT b = q2) (s2 : Small q2) (z2 : q2.length ≤ 64) (hrow : rowF (timesF q2 kT b) b = th)
    (k : ∀ h' tk' m' nw', Fr h₀ L h' m' → Loc2 m' b tb lW lT dT → News h₀ L h' ((L + 1, cO) :: nw') → (∀ p ∈ nw', p.1 ≠ L + 1) → (∀ p ∈ nw, p ∈ nw') → wpAny (model PG w) (lawA L fa wc) (execs rest (lawEnv L fa wc)) Q E { s with heap := h', toks := tk' }) :
    wpAny (model PG w) (lawA L fa wc) (execs (st 12 :: rest) (lawEnv L fa wc)) Q E s := by
  have kf : PySem.Challenge.rw_gz0002_01.row.prog = PySem.Challenge.rw_gz0002_01.row.prog ∧ Mine.hd.heap_39 = Mine.hd.heap_39 := by k_fill; exact ⟨rfl, rfl⟩
  clear kf
  dsimp only [numBody, lawA, lawEnv, st, lawBody, lawScope, lawDef, PySem.Challenge.pw_gz0002_01, lastOf, bodyOf, scopeOf, forBody, List.drop, List.headD]
  replace F := fr_pin4 F hl.1 hl.2.1 hl.2.2.1 hl.2.2.2
  k_steps
  refine Hold.mk ?_
  refine (times_spec w _ _ _ dT dT kT kT b _) _ _ _ _ _ _ _ _ _ _ _ _ _ _ _ _ _ _ B F X N T rfl ?r1 ?r2 ⟨TT.mono fun p hp => List.mem_cons_of_mem _ hp, TT.mono fun p hp => List.mem_cons_of_mem _ hp, s1, z1, z1⟩ ?_
  case r1 => ktr_room
  case r2 => ktr_units
  rintro r4 tl4 h4 tk4 F4 N4 o4 ⟨d4, rfl, T4⟩
  rw [e2] at T4
  clear F N
  obtain ⟨nw4, N4, oc4, sp, up⟩ := regroup2 N4 (fun p hp => Nat.ne_of_gt (o4 _ List.mem_cons_self p hp)) oc
  replace T4 := T4.dropCell hc sp
  replace TT := TT.mono up
  replace LT := LT.mono up
  clear o4 sp
  k_steps
  refine Hold.mk ?_
  refine (times_spec w _ _ _ d4 dT q2 kT b _) _ _ _ _ _ _ _ _ _ _ _ _ _ _ _ _ _ _ B F4 X N4 T rfl ?r3 ?r4 ⟨T4.mono fun p hp => List.mem_cons_of_mem _ hp, TT.mono fun p hp => List.mem_cons_of_mem _ hp, s2, z2, z1⟩ ?_
  case r3 => ktr_room
  case r4 => ktr_units
  rintro r6 tl6 h6 tk6 F6 N6 o6 ⟨d6, rfl, T6⟩
  clear F4 N4
  obtain ⟨nw6, N6, oc6, sp, up6⟩ := regroup2 N6 (fun p hp => Nat.ne_of_gt (o6 _ List.mem_cons_self p hp)) oc4
  replace T6 := T6.dropCell hc sp
  replace LT := LT.mono up6
  clear o6 sp
  k_steps
  refine Hold.mk ?_
  refine (row_spec w _ _ _ d6 (timesF q2 kT b) b _) _ _ _ _ _ _ _ _ _ _ _ _ _ _ _ _ _ _ B F6 X N6 T rfl ?r9 ?r10 ⟨T6.mono fun p hp => List.mem_cons_of_mem _ hp, b3, b8⟩ ?_
  case r9 => ktr_room
  case r10 => ktr_units
  rintro r8 tl8 h8 tk8 F8 N8 o8 ⟨l8, rfl, L8⟩
  clear F6 N6
  obtain ⟨nw8, N8, oc8, sp, up8⟩ := regroup2 N8 (fun p hp => o8 _ List.mem_cons_self p hp) oc6
  replace L8 := L8.dropCell hc sp
  replace LT := LT.mono up8
  clear o8 sp
  k_steps
  refine Hold.mk ?_
  refine lst_ne N8 (L8.mono fun p hp => List.mem_cons_of_mem _ hp) (LT.mono fun p hp => List.mem_cons_of_mem _ hp) (by units_room) hrow ?_
  k_steps
  exact k _ _ _ nw8 F8 ⟨rfl, rfl, rfl, rfl⟩ N8 oc8 fun p hp => up8 p (up6 p (up p hp))

end Mine

namespace Mine
local macro_rules | `(tactic| walk_at "pad0") => `(tactic| skip)
open PySem.Calls PyProof.V PySem.Spec PyProof.Rows.LCg
local macro_rules | `(tactic| k_all) => `(tactic| first | (with_reducible assumption) | exact ne_of_lts (by with_reducible assumption) | exact ne_of_allLt (by with_reducible assumption))
local macro_rules | `(tactic| k_mem) => `(tactic| with_reducible assumption)
local macro_rules | `(tactic| walk_at "call ref") => `(tactic| (k_here; refine Hold.out ?_))
local macro_rules | `(tactic| walk_at "call type:dict") => `(tactic| (k_here; refine Hold.out ?_))
local macro_rules | `(tactic| walk_at "eval ListComp") => `(tactic| (k_here; k_dflt (refine ListComp_U (F₀ := by k_asm) (by with_unfolding_all rfl) (by decide) (by rfl) (by decide) (by rfl) ?_)))
local macro_rules | `(tactic| walk_at "CompSrc") => `(tactic| (k_here; refine Hold.out ?_))

local macro_rules | `(tactic| walk_at "getMethod ref") => `(tactic| (k_here; k_dflt (first
  | ((with_reducible show wpAny _ _ (getMethod (Value.ref _) (Str.ofString "get") _) _ _ _); (refine' rdN_method PySem.F.slot_dict_get PySem.F.type_dict_get ?N ?p ?r ?_; (case N => k_asm); (case p => kcf_m); (case r => with_reducible assumption))))))
local macro_rules | `(tactic| walk_at "call builtin:dict.get") => `(tactic| (k_here; k_dflt (refine' it_get ?N ?T ?_; (case N => k_asm); (case T => exact ITabL.mono (by with_reducible assumption) (by intro p hp; kcf_m)); intro t')))
local macro_rules | `(tactic| walk_at "compareOp NotEq ref ref") => `(tactic| (k_here; refine Hold.out ?_))
local macro_rules | `(tactic| walk_at "compareOp Eq ref ref") => `(tactic| (k_here; refine Hold.out ?_))

theorem reset_B10 : True := by
  w_top off
  trivial
theorem seg13 (w : World) (mean : ExcName → Option Value) (mg mb : Str → Option Value) (fa wc L : Addr) (h₀ : Heap) (m : Str → Option Value) (cO : Obj) (nw : List (Addr × Obj)) (s : Shared) (Q : Flow → Shared → Prop) (E : Value → Shared → Prop) (b : Int) (tb : Tok) (lW lT dT : Addr) (ws th : List Int) (cv : Option Value)
    (B : Below callerA h₀ [] h₀) (F : Fr h₀ L s.heap m) (X : (hd.heap_39 w.params).In h₀) (N : News h₀ L s.heap ((L + 1, cO) :: nw)) (T : Top hd.view_39 LO mean mg mb h₀) (oc : ∀ p ∈ nw, p.1 ≠ L + 1) (hc : cO.data = .cell cv)
    (hl : Loc2 m b tb lW lT dT) (LW : ListL nw lW ws) (LT : ListL nw lT th) (zw : ws.length ≤ 64) (zt : th.length ≤ 64) (ew : ws.take 4 = [1, 1, 2, 3]) (et : th.take 4 = [1, 3, 9, 22])
    (k : ∀ h' tk' m' nx, Fr h₀ L h' m' → News h₀ L h' nx → Q (.ret (.bool true)) { s with heap := h', toks := tk' }) :
    wpAny (model PG w) (lawA L fa wc) (execs [st 13] (lawEnv L fa wc)) Q E s := by
  have kf : PySem.Challenge.rw_gz0002_01.row.prog = PySem.Challenge.rw_gz0002_01.row.prog ∧ Mine.hd.heap_39 = Mine.hd.heap_39 := by k_fill; exact ⟨rfl, rfl⟩
  clear kf
  dsimp only [numBody, lawA, lawEnv, st, lawBody, lawScope, lawDef, PySem.Challenge.pw_gz0002_01, lastOf, bodyOf, scopeOf, forBody, List.drop, List.headD]
  replace F := fr_pin4 F hl.1 hl.2.1 hl.2.2.1 hl.2.2.2
  obtain ⟨vsW, cW, hmW, hvW⟩ := id LW
  obtain ⟨vsT, cT, hmT, hvT⟩ := id LT
  have szW : vsW.toArray.size ≤ sizeLine := kmk_sz hvW (by rw [PySem.sizeLine_eq]; omega)
  have szT : vsT.toArray.size ≤ sizeLine := kmk_sz hvT (by rw [PySem.sizeLine_eq]; omega)
  k_steps
  k_dflt (refine' kmk_slice_ints F N (lst_is N (List.mem_cons_of_mem _ hmW)) .none (.int _ _) hvW (kmk_upto hvW (by decide)) rfl ?_ ?s ?t szW; (case s => with_unfolding_all rfl); (case t => kmk_pure))
  intro D1 ws1 h1 F1 N1 l1 hI1 _ _
  clear F N
  replace hI1 : IntsAre ws1 [1, 1, 2, 3] := by rw [← ew]; exact hI1
  k_steps
  rename_i l2 h2 F2 N2 g2
  refine Hold.mk ?_
  dsimp only
  have e2 : ListL ((D1, W.listOf ws1.toArray 0) :: (L + 1, cO) :: nw) D1 [1, 1, 2, 3] := ⟨ws1, 0, List.mem_cons_self, hI1⟩
  refine lst_eq N2 (e2.mono fun p hp => List.mem_cons_of_mem _ hp) ⟨[_, _, _, _], 0, List.mem_cons_self, .cons 1 _ (.cons 1 _ (.cons 2 _ (.cons 3 _ .nil)))⟩ (by units_room) rfl ?_
  have N3 : News h₀ L h2 nw := fun p hp => N2 p (List.mem_cons_of_mem _ (List.mem_cons_of_mem _ (List.mem_cons_of_mem _ hp)))
  clear N2 g2 e2 l1
  k_steps
  rename_i D4 ws4 _ l4 hI4 _ _ l5 h5 F5 N5 g5
  refine Hold.mk ?_
  dsimp only
  replace hI4 : IntsAre ws4 [1, 3, 9, 22] := by rw [← et]; exact hI4
  have e5 : ListL ((D4, W.listOf ws4.toArray 0) :: nw) D4 [1, 3, 9, 22] := ⟨ws4, 0, List.mem_cons_self, hI4⟩
  refine lst_eq N5 (e5.mono fun p hp => List.mem_cons_of_mem _ hp) ⟨[_, _, _, _], 0, List.mem_cons_self, .cons 1 _ (.cons 3 _ (.cons 9 _ (.cons 22 _ .nil)))⟩ (by units_room) rfl ?_
  exact k _ _ _ _ F5 N5

end Mine

namespace Mine
open PySem.Calls PyProof.V PySem.Spec PyProof.Rows.LCg
structure LF (b : Int) (t1 t2 t3 : List (Int × Int)) (row ws th : List Int) (kT q2 : List (Int × Int)) : Prop where
  ok : LessOk b
  e1 : lessN b b.toNat = t1
  e2 : timesF t1 t1 b = t2
  e3 : timesF t2 t1 b = t3
  e4 : rowF t3 b = row
  s1 : Small t1
  z1 : t1.length ≤ 64
  s2 : Small t2
  z2 : t2.length ≤ 64
  zr : row.length = (b + 1).toNat
  rowAt : ∀ i : Nat, i < (b + 1).toNat → row.getD i 0 = if bisF sumsL (i : Int) < 7 ∧ sumsL.getD (bisF sumsL (i : Int)).toNat 0 = (i : Int) then (2 * bisF sumsL (i : Int) + 1) * (1 - 2 * (bisF sumsL (i : Int)).fmod 2) else 0
  halves : rowF t1 b = (rangeKs 0 (b + 1).toNat).map fun k => (getT (hvL 9) k).getD 0
  hsum : sumT t3 = row.sum
  zq : (timesF t1 t2 b).length = t3.length
  hq : ∀ p ∈ timesF t1 t2 b, getT t3 p.1 = some p.2
  ok1 : OtherOk (rowF t1 b)
  ok2 : OtherOk row
  e5 : otherN (rowF t1 b) ((rowF t1 b).length - 1) = ws
  e6 : otherN row (row.length - 1) = th
  zw : ws.length ≤ 64
  zt : th.length ≤ 64
  e7 : enumT ws ws.length = kT
  s7 : Small kT
  z7 : kT.length ≤ 64
  e8 : timesF kT kT b = q2
  s8 : Small q2
  z8 : q2.length ≤ 64
  e9 : rowF (timesF q2 kT b) b = th
  ew : ws.take 4 = [1, 1, 2, 3]
  et : th.take 4 = [1, 3, 9, 22]
noncomputable abbrev tt1 (b : Int) : List (Int × Int) := lessN b b.toNat
noncomputable abbrev tt2 (b : Int) : List (Int × Int) := timesF (tt1 b) (tt1 b) b
noncomputable abbrev tt3 (b : Int) : List (Int × Int) := timesF (tt2 b) (tt1 b) b
noncomputable abbrev rr (b : Int) : List Int := rowF (tt3 b) b
noncomputable abbrev wws (b : Int) : List Int := otherN (rowF (tt1 b) b) ((rowF (tt1 b) b).length - 1)
noncomputable abbrev tth (b : Int) : List Int := otherN (rr b) ((rr b).length - 1)
noncomputable abbrev kkT (b : Int) : List (Int × Int) := enumT (wws b) (wws b).length
noncomputable abbrev qq2 (b : Int) : List (Int × Int) := timesF (kkT b) (kkT b) b

theorem lf3 : LF 3 (tt1 3) (tt2 3) (tt3 3) (rr 3) (wws 3) (tth 3) (kkT 3) (qq2 3) where
  ok := ⟨by decide, by decide, by unfold Small; decide +kernel⟩
  e1 := rfl
  e2 := rfl
  e3 := rfl
  e4 := rfl
  s1 := by unfold Small; decide +kernel
  z1 := by decide +kernel
  s2 := by unfold Small; decide +kernel
  z2 := by decide +kernel
  zr := by decide +kernel
  rowAt := by decide +kernel
  halves := by decide +kernel
  hsum := by decide +kernel
  zq := by decide +kernel
  hq := by decide +kernel
  ok1 := by unfold OtherOk SmallL; decide +kernel
  ok2 := by unfold OtherOk SmallL; decide +kernel
  e5 := rfl
  e6 := rfl
  zw := by decide +kernel
  zt := by decide +kernel
  e7 := rfl
  s7 := by unfold Small; decide +kernel
  z7 := by decide +kernel
  e8 := rfl
  s8 := by unfold Small; decide +kernel
  z8 := by decide +kernel
  e9 := by decide +kernel
  ew := by decide +kernel
  et := by decide +kernel

theorem lf4 : LF 4 (tt1 4) (tt2 4) (tt3 4) (rr 4) (wws 4) (tth 4) (kkT 4) (qq2 4) where
  ok := ⟨by decide, by decide, by unfold Small; decide +kernel⟩
  e1 := rfl
  e2 := rfl
  e3 := rfl
  e4 := rfl
  s1 := by unfold Small; decide +kernel
  z1 := by decide +kernel
  s2 := by unfold Small; decide +kernel
  z2 := by decide +kernel
  zr := by decide +kernel
  rowAt := by decide +kernel
  halves := by decide +kernel
  hsum := by decide +kernel
  zq := by decide +kernel
  hq := by decide +kernel
  ok1 := by unfold OtherOk SmallL; decide +kernel
  ok2 := by unfold OtherOk SmallL; decide +kernel
  e5 := rfl
  e6 := rfl
  zw := by decide +kernel
  zt := by decide +kernel
  e7 := rfl
  s7 := by unfold Small; decide +kernel
  z7 := by decide +kernel
  e8 := rfl
  s8 := by unfold Small; decide +kernel
  z8 := by decide +kernel
  e9 := by decide +kernel
  ew := by decide +kernel
  et := by decide +kernel

theorem lf5 : LF 5 (tt1 5) (tt2 5) (tt3 5) (rr 5) (wws 5) (tth 5) (kkT 5) (qq2 5) where
  ok := ⟨by decide, by decide, by unfold Small; decide +kernel⟩
  e1 := rfl
  e2 := rfl
  e3 := rfl
  e4 := rfl
  s1 := by unfold Small; decide +kernel
  z1 := by decide +kernel
  s2 := by unfold Small; decide +kernel
  z2 := by decide +kernel
  zr := by decide +kernel
  rowAt := by decide +kernel
  halves := by decide +kernel
  hsum := by decide +kernel
  zq := by decide +kernel
  hq := by decide +kernel
  ok1 := by unfold OtherOk SmallL; decide +kernel
  ok2 := by unfold OtherOk SmallL; decide +kernel
  e5 := rfl
  e6 := rfl
  zw := by decide +kernel
  zt := by decide +kernel
  e7 := rfl
  s7 := by unfold Small; decide +kernel
  z7 := by decide +kernel
  e8 := rfl
  s8 := by unfold Small; decide +kernel
  z8 := by decide +kernel
  e9 := by decide +kernel
  ew := by decide +kernel
  et := by decide +kernel

theorem lf6 : LF 6 (tt1 6) (tt2 6) (tt3 6) (rr 6) (wws 6) (tth 6) (kkT 6) (qq2 6) where
  ok := ⟨by decide, by decide, by unfold Small; decide +kernel⟩
  e1 := rfl
  e2 := rfl
  e3 := rfl
  e4 := rfl
  s1 := by unfold Small; decide +kernel
  z1 := by decide +kernel
  s2 := by unfold Small; decide +kernel
  z2 := by decide +kernel
  zr := by decide +kernel
  rowAt := by decide +kernel
  halves := by decide +kernel
  hsum := by decide +kernel
  zq := by decide +kernel
  hq := by decide +kernel
  ok1 := by unfold OtherOk SmallL; decide +kernel
  ok2 := by unfold OtherOk SmallL; decide +kernel
  e5 := rfl
  e6 := rfl
  zw := by decide +kernel
  zt := by decide +kernel
  e7 := rfl
  s7 := by unfold Small; decide +kernel
  z7 := by decide +kernel
  e8 := rfl
  s8 := by unfold Small; decide +kernel
  z8 := by decide +kernel
  e9 := by decide +kernel
  ew := by decide +kernel
  et := by decide +kernel

theorem lf7 : LF 7 (tt1 7) (tt2 7) (tt3 7) (rr 7) (wws 7) (tth 7) (kkT 7) (qq2 7) where
  ok := ⟨by decide, by decide, by unfold Small; decide +kernel⟩
  e1 := rfl
  e2 := rfl
  e3 := rfl
  e4 := rfl
  s1 := by unfold Small; decide +kernel
  z1 := by decide +kernel
  s2 := by unfold Small; decide +kernel
  z2 := by decide +kernel
  zr := by decide +kernel
  rowAt := by decide +kernel
  halves := by decide +kernel
  hsum := by decide +kernel
  zq := by decide +kernel
  hq := by decide +kernel
  ok1 := by unfold OtherOk SmallL; decide +kernel
  ok2 := by unfold OtherOk SmallL; decide +kernel
  e5 := rfl
  e6 := rfl
  zw := by decide +kernel
  zt := by decide +kernel
  e7 := rfl
  s7 := by unfold Small; decide +kernel
  z7 := by decide +kernel
  e8 := rfl
  s8 := by unfold Small; decide +kernel
  z8 := by decide +kernel
  e9 := by decide +kernel
  ew := by decide +kernel
  et := by decide +kernel

theorem lf8 : LF 8 (tt1 8) (tt2 8) (tt3 8) (rr 8) (wws 8) (tth 8) (kkT 8) (qq2 8) where
  ok := ⟨by decide, by decide, by unfold Small; decide +kernel⟩
  e1 := rfl
  e2 := rfl
  e3 := rfl
  e4 := rfl
  s1 := by unfold Small; decide +kernel
  z1 := by decide +kernel
  s2 := by unfold Small; decide +kernel
  z2 := by decide +kernel
  zr := by decide +kernel
  rowAt := by decide +kernel
  halves := by decide +kernel
  hsum := by decide +kernel
  zq := by decide +kernel
  hq := by decide +kernel
  ok1 := by unfold OtherOk SmallL; decide +kernel
  ok2 := by unfold OtherOk SmallL; decide +kernel
  e5 := rfl
  e6 := rfl
  zw := by decide +kernel
  zt := by decide +kernel
  e7 := rfl
  s7 := by unfold Small; decide +kernel
  z7 := by decide +kernel
  e8 := rfl
  s8 := by unfold Small; decide +kernel
  z8 := by decide +kernel
  e9 := by decide +kernel
  ew := by decide +kernel
  et := by decide +kernel

theorem lf_all (b : Int) (h3 : 3 ≤ b) (h8 : b ≤ 8) : ∃ t1 t2 t3 row ws th kT q2, LF b t1 t2 t3 row ws th kT q2 := by
  rcases (show b = 3 ∨ b = 4 ∨ b = 5 ∨ b = 6 ∨ b = 7 ∨ b = 8 by omega) with rfl | rfl | rfl | rfl | rfl | rfl
  · exact ⟨_, _, _, _, _, _, _, _, lf3⟩
  · exact ⟨_, _, _, _, _, _, _, _, lf4⟩
  · exact ⟨_, _, _, _, _, _, _, _, lf5⟩
  · exact ⟨_, _, _, _, _, _, _, _, lf6⟩
  · exact ⟨_, _, _, _, _, _, _, _, lf7⟩
  · exact ⟨_, _, _, _, _, _, _, _, lf8⟩

end Mine

namespace Mine
open PySem.Calls PyProof.V PySem.Spec PyProof.Rows.LCg
theorem body7 : lawBody 7 = st 7 :: lawBody 8 := by rfl
theorem body8 : lawBody 8 = st 8 :: lawBody 9 := by rfl
theorem body9 : lawBody 9 = st 9 :: lawBody 10 := by rfl
theorem body10 : lawBody 10 = st 10 :: lawBody 11 := by rfl
theorem body11 : lawBody 11 = st 11 :: lawBody 12 := by rfl
theorem body12 : lawBody 12 = st 12 :: lawBody 13 := by rfl
theorem body13 : lawBody 13 = [st 13] := by rfl
theorem tail7 (w : World) (mean : ExcName → Option Value) (mg mb : Str → Option Value) (fa wc L : Addr) (h₀ : Heap) (m : Str → Option Value) (cO : Obj) (nw : List (Addr × Obj)) (s : Shared) (Q : Flow → Shared → Prop) (E : Value → Shared → Prop) (b : Int) (tb : Tok) (d1 d2 d3 lR : Addr)
    (t1 t2 t3 : List (Int × Int)) (row ws th : List Int) (kT q2 : List (Int × Int)) (lf : LF b t1 t2 t3 row ws th kT q2)
    (B : Below callerA h₀ [] h₀) (F : Fr h₀ L s.heap m) (X : (hd.heap_39 w.params).In h₀) (N : News h₀ L s.heap ((L + 1, cO) :: nw)) (T : Top hd.view_39 LO mean mg mb h₀) (oc : ∀ p ∈ nw, p.1 ≠ L + 1) (hc : cO.data = .cell none)
    (hl : Loc m b tb d1 d2 d3 lR) (T1 : TabL PG w nw d1 t1) (T2 : TabL PG w nw d2 t2) (T3 : TabL PG w nw d3 t3) (LR : ListL nw lR row)
    (k : ∀ h' tk' m' nx, Fr h₀ L h' m' → News h₀ L h' nx → Q (.ret (.bool true)) { s with heap := h', toks := tk' }) :
    wpAny (model PG w) (lawA L fa wc) (execs (lawBody 7) (lawEnv L fa wc)) Q E s := by
  obtain ⟨⟨b3, b8, hall⟩, e1, e2, e3, e4, s1, z1, s2, z2, zr, rowAt, hv, hsum, zq, hq, ok1, ok2, e5, e6, zw, zt, e7, s7, z7, e8, s8, z8, e9, ew, et⟩ := lf
  rw [body7]
  refine seg7 w mean mg mb fa wc L h₀ m cO nw s Q E _ B F X N T oc hc ?_
  intro h7 tk7 dH cO' nw7 F7 N7 oc7 up7 hc7 TH
  rw [body8]
  refine seg8 w mean mg mb fa wc L h₀ m cO' nw7 _ Q E _ b tb d1 d2 d3 lR dH t1 B F7 X N7 T oc7 hc7 hl TH (T1.mono up7) b3 b8 hv ?_
  intro h8 tk8 m8 nw8 F8 hl8 N8 oc8 up8
  rw [body9]
  have u8 : ∀ p ∈ nw, p ∈ nw8 := fun p hp => up8 p (up7 p hp)
  refine seg9 w mean mg mb fa wc L h₀ m8 cO' nw8 _ Q E _ b tb d1 d2 d3 lR t1 t2 t3 row _ B F8 X N8 T oc8 hc7 hl8 (T1.mono u8) (T2.mono u8) (T3.mono u8) (LR.mono u8) hsum s1 z1 z2 zq hq ?_
  intro h9 tk9 m9 nw9 F9 hl9 N9 oc9 up9
  rw [body10]
  have u9 : ∀ p ∈ nw, p ∈ nw9 := fun p hp => up9 p (u8 p hp)
  refine seg10 w mean mg mb fa wc L h₀ m9 cO' nw9 _ Q E _ b tb d1 d2 d3 lR t1 row _ B F9 X N9 T oc9 hc7 hl9 (T1.mono u9) (LR.mono u9) b3 b8 ok1 ok2 ?_
  intro h10 tk10 m10 nw10 lW lT F10 hl10 hmW hmT N10 oc10 up10 LW LT
  rw [e5] at LW
  rw [e6] at LT
  rw [body11]
  refine seg11 w mean mg mb fa wc L h₀ m10 cO' nw10 _ Q E _ b tb d1 d2 d3 lR lW lT ws _ B F10 X N10 T oc10 hc7 hl10 hmW hmT LW zw ?_
  intro h11 tk11 m11 nw11 dT F11 hl11 hmW1 hmT1 hmTb N11 oc11 up11 TT
  rw [e7] at TT
  rw [body12]
  refine seg12 w mean mg mb fa wc L h₀ m11 cO' nw11 _ Q E _ b tb lW lT dT kT q2 th _ B F11 X N11 T oc11 hc7 ⟨hl11.1, hmW1, hmT1, hmTb⟩ TT (LT.mono up11) b3 b8 s7 z7 e8 s8 z8 e9 ?_
  intro h12 tk12 m12 nw12 F12 hl12 N12 oc12 up12
  rw [body13]
  refine seg13 w mean mg mb fa wc L h₀ m12 cO' nw12 _ Q E b tb lW lT dT ws th _ B F12 X N12 T oc12 hc7 hl12 (LW.mono fun p hp => up12 p (up11 p hp)) (LT.mono fun p hp => up12 p (up11 p hp)) zw zt ew et ?_
  intro h13 tk13 m13 nx F13 N13
  exact k h13 tk13 m13 nx F13 N13

end Mine

namespace Mine
open PySem.Calls PyProof.V PySem.Spec PyProof.Rows.LCg
local macro_rules | `(tactic| k_all) => `(tactic| first | (with_reducible assumption) | exact ne_of_lts (by with_reducible assumption) | exact ne_of_allLt (by with_reducible assumption))
local macro_rules | `(tactic| walk_at "UnrEnd") => `(tactic| (k_here; refine Hold.out ?_))
local macro_rules | `(tactic| walk_at "call ref") => `(tactic| (k_here; refine Hold.out ?_))
local macro_rules | `(tactic| walk_at "call type:dict") => `(tactic| (k_here; refine Hold.out ?_))
local macro_rules | `(tactic| walk_at "eval ListComp") => `(tactic| (k_here; refine Hold.out ?_))
local macro_rules | `(tactic| walk_at "KrsRest") => `(tactic| (k_here; refine Hold.out ?_))
local macro_rules | `(tactic| walk_at "call type:range") => `(tactic| (k_here; (have hNN' : NowHold := by with_reducible assumption); clear hNN'; refine Hold.out ?_))

local macro_rules | `(tactic| k_mem) => `(tactic| with_reducible assumption)
noncomputable def sumsN : Nat → List Int
  | 0 => []
  | i + 1 => insN (sumsN i) (((6 + (i : Int) * (0 - 1)) * ((6 + (i : Int) * (0 - 1)) + 1)).fdiv 2)
theorem reset_C1 : True := by
  w_top off
  trivial
theorem sums_ok : ∀ i, i < 7 → (sumsN i).length ≤ 60 ∧ Builtin.List.listFitsIndex (bisF (sumsN i) (((6 + (i : Int) * (0 - 1)) * ((6 + (i : Int) * (0 - 1)) + 1)).fdiv 2)) = true := by decide +kernel
theorem sums_7 : sumsN 7 = [0, 1, 3, 6, 10, 15, 21] := by decide +kernel
theorem law_holds : PySem.Challenge.rw_gz0002_01.Holds := Mine.hd (by
  k_go0
  (all_goals try k_fold)
  k_steps
  rename_i wP s0 s1 mg mb G Y fa o pm doc ho hg KX Xm V GL T Bt TE TW wa wb M wc wd hcd scr hs hlay hL0 hr0 hl2 x1 x2 x3 x4 x5 hL1 ra w1 r0 hI hr1 hc1 hc2 K0 hD h1 tk1 cO rgt X0 hA tkA tA lS hB lS1 DT hC lT hD1 hE hF FE NE hG tkG t1 u1 v1 R K iK lK
  obtain ⟨lK1, lK2, lK3⟩ := id lK
  refine Hold.mk ?_
  refine rest_krs (fun i m nx => ∃ vs c, nx = [(DT, { cls := Value.type "tuple", data := Data.seq #[Value.int (3 + scr.sum.fmod 6) (tkA + 1 + 1), Value.ref lS] }), (lS, W.listOf vs.toArray c), (s1.heap.objs.size + 1, cO)] ∧ IntsAre vs (sumsN i) ∧
    m (Str.ofString "sums") = some (.ref lS) ∧ m (Str.ofString "bound") = some (.int (3 + scr.sum.fmod 6) (tkA + 1 + 1))) ?turn ?done _ 0 _ _ (Nat.add_zero _) ⟨[], 0, rfl, .nil, rfl, rfl⟩ ?off
  case off => exact ne_of_allLt ⟨lK1, lK2, lK3, trivial⟩
  case turn =>
    rintro i m nx t h tk hi ⟨vs, c, rfl, hv, hmS, hmB⟩ off F N
    replace F := fr_pin2 F (x := Str.ofString "sums") (v := .ref lS) (x2 := Str.ofString "bound") (v2 := .int (3 + scr.sum.fmod 6) (tkA + 1 + 1)) (by rw [if_neg (by decide)]; exact hmS) (by rw [if_neg (by decide)]; exact hmB)
    obtain ⟨z1, z2⟩ := sums_ok i hi
    k_steps
    refine Hold.mk ?_
    refine (insort_spec wP _ _ _ lS (sumsN i) _ _) _ _ _ _ _ _ _ _ _ _ _ _ _ _ [(iK, _), (DT, _)] [(s1.heap.objs.size + 1, cO)] vs c _ _ _ K0 F KX N T rfl ?r1 ?r2 (fun p hp => by
      simp only [List.mem_cons, List.not_mem_nil, or_false] at hp
      rcases hp with rfl | rfl
      · exact Nat.ne_of_gt lK2
      · exact Nat.ne_of_gt lT.1) (fun p hp => by rw [List.mem_singleton.mp hp]; exact Nat.ne_of_lt lS1) hv z1 z2 ?_
    case r1 => ktr_room
    case r2 => ktr_units
    rintro h8 tk8 vs8 F8 N8 hv8
    clear F N
    k_steps
    exact Hold.mk ⟨_, _, _, _, rfl, F8, N8, ne_of_allLt ⟨lK1, lK2, lK3, trivial⟩, vs8, c + 1, rfl, hv8, rfl, rfl⟩
  case done =>
    rintro m nx h tk ⟨vs, c, rfl, hv, hmS, hmB⟩ off F N
    rw [sums_7] at hv
    replace F := fr_pin2 F hmS hmB
    generalize hb : 3 + scr.sum.fmod 6 = b at F
    rw [hb] at N
    have N0 : News s1.heap s1.heap.objs.size h [(s1.heap.objs.size + 1, cO), (lS, W.listOf vs.toArray c)] := fun p hp => N p (by simp only [List.mem_cons] at hp ⊢; grind)
    have S0 : ListL [(s1.heap.objs.size + 1, cO), (lS, W.listOf vs.toArray c)] lS [0, 1, 3, 6, 10, 15, 21] := ⟨vs, c, by simp, hv⟩
    clear N
    have nh9 : NowHold := ⟨⟩
    have hb3 : 3 ≤ b := by rw [← hb, Int.fmod_eq_emod_of_nonneg _ (by decide)]; omega
    have hb8 : b ≤ 8 := by rw [← hb, Int.fmod_eq_emod_of_nonneg _ (by decide)]; omega
    obtain ⟨t1, t2, t3, row, ws, th, kT, q2, lf⟩ := lf_all b hb3 hb8
    k_steps
    refine Hold.mk ?_
    refine (less_spec wP _ _ _ b _) _ _ _ _ _ _ _ _ _ _ _ _ _ _ _ _ _ _ K0 F KX N0 T rfl ?r3 ?r4 lf.ok ?_
    case r3 => ktr_room
    case r4 => ktr_units
    rintro r1 tl1 h1 tk1 F1 N1 o1 ⟨d1, rfl, TL1⟩
    rw [lf.e1] at TL1
    replace S0 := S0.mono (news' := tl1 ++ [(s1.heap.objs.size + 1, cO), (lS, W.listOf vs.toArray c)]) fun p hp => List.mem_append_right _ hp
    have oc : ∀ p ∈ tl1 ++ [(lS, W.listOf vs.toArray c)], p.1 ≠ s1.heap.objs.size + 1 := fun p hp => by
      rcases List.mem_append.mp hp with hp | hp
      · exact Nat.ne_of_gt (o1 (s1.heap.objs.size + 1, cO) (by simp) p hp)
      · rw [List.mem_singleton.mp hp]; exact Nat.ne_of_gt lS1
    replace N1 : News s1.heap s1.heap.objs.size h1 ((s1.heap.objs.size + 1, cO) :: (tl1 ++ [(lS, W.listOf vs.toArray c)])) := fun p hp => N1 p (by simp only [List.mem_cons, List.mem_append] at hp ⊢; grind)
    replace S0 := S0.mono (news' := (s1.heap.objs.size + 1, cO) :: (tl1 ++ [(lS, W.listOf vs.toArray c)])) fun p hp => by simp only [List.mem_cons, List.mem_append] at hp ⊢; grind
    replace TL1 := TL1.mono (news' := (s1.heap.objs.size + 1, cO) :: (tl1 ++ [(lS, W.listOf vs.toArray c)])) fun p hp => by simp only [List.mem_cons, List.mem_append] at hp ⊢; grind
    clear F N0 o1
    generalize tl1 ++ [(lS, W.listOf vs.toArray c)] = nw1 at N1 S0 TL1 oc
    k_steps
    refine Hold.mk ?_
    rename_i F2 N2
    refine (times_spec wP _ _ _ d1 d1 t1 t1 b _) _ _ _ _ _ _ _ _ _ _ _ _ _ _ _ _ _ _ K0 F2 KX N2 T rfl ?r5 ?r6 ⟨TL1, TL1, lf.s1, lf.z1, lf.z1⟩ ?_
    case r5 => ktr_room
    case r6 => ktr_units
    rintro r2 tl2 h2 tk2 F3 N3 o3 ⟨d2, rfl, TL2⟩
    rw [lf.e2] at TL2
    clear F2 N2
    obtain ⟨nw2, N3, oc2, up, up'⟩ := regroup N3 (fun p hp => Nat.ne_of_gt (o3 _ List.mem_cons_self p hp)) oc
    replace TL2 := TL2.mono up
    replace TL1 := TL1.mono up'
    replace S0 := S0.mono up'
    clear up up' o3 oc
    k_steps
    refine Hold.mk ?_
    rename_i F4 N4
    refine (times_spec wP _ _ _ d2 d1 t2 t1 b _) _ _ _ _ _ _ _ _ _ _ _ _ _ _ _ _ _ _ K0 F4 KX N4 T rfl ?r7 ?r8 ⟨TL2, TL1, lf.s2, lf.z2, lf.z1⟩ ?_
    case r7 => ktr_room
    case r8 => ktr_units
    rintro r3 tl3 h3 tk3 F5 N5 o5 ⟨d3, rfl, TL3⟩
    rw [lf.e3] at TL3
    clear F4 N4
    obtain ⟨nw3, N5, oc3, up, up'⟩ := regroup N5 (fun p hp => Nat.ne_of_gt (o5 _ List.mem_cons_self p hp)) oc2
    replace TL3 := TL3.mono up
    replace TL2 := TL2.mono up'
    replace TL1 := TL1.mono up'
    replace S0 := S0.mono up'
    clear up up' o5 oc2
    k_steps
    refine Hold.mk ?_
    rename_i F6 N6
    refine (row_spec wP _ _ _ d3 t3 b _) _ _ _ _ _ _ _ _ _ _ _ _ _ _ _ _ _ _ K0 F6 KX N6 T rfl ?r9 ?r10 ⟨TL3, lf.ok.1, lf.ok.2.1⟩ ?_
    case r9 => ktr_room
    case r10 => ktr_units
    rintro r4 tl4 h4 tk4 F7 N7 o7 ⟨lR, rfl, LR⟩
    rw [lf.e4] at LR
    clear F6 N6
    obtain ⟨nw4, N7, oc4, up, up'⟩ := regroup N7 (fun p hp => o7 _ List.mem_cons_self p hp) oc3
    replace LR := LR.mono up
    replace TL3 := TL3.mono up'
    replace TL2 := TL2.mono up'
    replace TL1 := TL1.mono up'
    replace S0 := S0.mono up'
    clear up up' o7 oc3
    k_steps
    refine Hold.mk ?_
    rename_i hX FX NX
    refine range1_rows FX NX ?_
    intro h5 tk5 t5 u5 v5 R8 F8 N8 K8
    clear FX NX
    obtain ⟨b3, b8, _⟩ := id lf.ok
    refine iter_rangeUnr (n := (b + 1).toNat) (by rfl) R8 (small_one (by omega) (by omega) (by omega) (by omega)) ((rangeSize_nat _ _).trans (congrArg Nat.cast (congrArg Int.toNat (show b + 1 - 0 = b + 1 by omega)))) F8 N8 fun I lI => ?_
    refine rest_range (fun i m nx => nx = (s1.heap.objs.size + 1, cO) :: nw4 ∧ m (Str.ofString "row") = some (.ref lR) ∧ m (Str.ofString "sums") = some (.ref lS) ∧ m (Str.ofString "bound") = some (.int b (tkA + 1 + 1)) ∧
      m (Str.ofString "once") = some (.ref d1) ∧ m (Str.ofString "twice") = some (.ref d2) ∧ m (Str.ofString "third") = some (.ref d3)) ?tn ?dn _ 0 _ _ (Nat.add_zero _) ⟨rfl, rfl, rfl, rfl, rfl, rfl, rfl⟩ (ne_of_lts lI)
    case tn =>
      rintro i m nx t h tk hi ⟨rfl, hmR, hmS, hmB, hm1, hm2, hm3⟩ off F N
      have hrow := lf.rowAt i hi
      rw [← Int.zero_add (i : Int)] at hrow
      refine num_turn wP _ mg mb fa wc s1.heap.objs.size lS lR s1.heap m _ _ _ _ row (0 + (i : Int)) t K0 F KX N T (S0.mono fun p hp => List.mem_cons_of_mem _ hp) (LR.mono fun p hp => List.mem_cons_of_mem _ hp) hmR hmS (by omega) (by omega) (by rw [lf.zr]; omega) (by rw [Int.zero_add] at hrow ⊢; exact hrow) ?_
      intro h' tk' m' F' N' q1 q2 q3 q4 q5 q6
      exact ⟨_, _, _, _, rfl, F', N', off, rfl, q1, q2, q3.trans hmB, q4.trans hm1, q5.trans hm2, q6.trans hm3⟩
    case dn =>
      rintro m nx h tk ⟨rfl, hmR, hmS, hmB, hm1, hm2, hm3⟩ off F N
      have hc : cO.data = .cell none := rgt
      have dr : ∀ p ∈ (s1.heap.objs.size + 1, cO) :: nw4, p ∈ nw4 ∨ p = (s1.heap.objs.size + 1, cO) := fun p hp => (List.mem_cons.mp hp).symm
      refine tail7 wP _ mg mb fa wc s1.heap.objs.size s1.heap m cO nw4 _ _ _ b _ d1 d2 d3 lR t1 t2 t3 row ws th kT q2 lf K0 F KX N T oc4 hc ⟨hmB, hm1, hm2, hm3, hmR⟩ (TL1.dropCell hc dr) (TL2.dropCell hc dr) (TL3.dropCell hc dr) (LR.dropCell hc dr) ?_
      intro h9 tk9 m9 nx9 F9 N9
      k_steps)

end Mine

theorem PySem.Challenge.cw_gz0002_01_holds : PySem.Challenge.rw_gz0002_01.Holds := by
  exact Mine.law_holds
