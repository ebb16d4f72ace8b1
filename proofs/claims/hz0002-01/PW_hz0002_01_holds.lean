import PyProof.Rows.All
import Wide.All
import OpenK.AllK
import Wide.FinOn
import KE.KLcTest
import KE.KCompIf
import KE.KListLetter
import KE.KRevIter
import Lean
import PySem.Challenge.RW_hz0002_01
set_option Elab.async false
set_option maxRecDepth 100000
open PySem PySem.W PyProof.Rows
namespace Mine
set_option maxHeartbeats 8000000 in
open_top hd for PySem.Challenge.rw_hz0002_01
-- part MA
section
section
variable {prog : Program} {w : World} {A : Around} {E : Value → Shared → Prop} {s : Shared}

theorem eqB_si {a : Str} {b : Int} {t u : Tok} {Q : Bool → Shared → Prop} (h : Q false s) : wpAny (model prog w) A (eqBool (.str a t) (.int b u)) Q E s := by
  unfold eqBool
  rw [if_neg (fun q => by have := eq_of_beq q; cases this)]
  refine wpAny_bind (m := richCompare .Eq (.str a t) (.int b u)) ?_
  exact PySem.EqMixed.eq_str_int (wpAny_truthy_bool h)
theorem eqB_is {a : Int} {b : Str} {t u : Tok} {Q : Bool → Shared → Prop} (h : Q false s) : wpAny (model prog w) A (eqBool (.int a t) (.str b u)) Q E s := by
  unfold eqBool
  rw [if_neg (fun q => by have := eq_of_beq q; cases this)]
  refine wpAny_bind (m := richCompare .Eq (.int a t) (.str b u)) ?_
  exact PySem.EqMixed.eq_int_str (wpAny_truthy_bool h)
end

/-- a str or an int -/
def mixIs : Str ⊕ Int → Value → Bool
  | .inl x, v => Value.isStrOf x v
  | .inr n, v => Value.isInt n v
theorem mixIs_cases {k : Str ⊕ Int} {v : Value} (h : mixIs k v = true) : (∃ x t, k = .inl x ∧ v = .str x t) ∨ (∃ n t, k = .inr n ∧ v = .int n t) := by
  cases k with
  | inl x => obtain ⟨t, rfl⟩ := Value.isStrOf_shape h; exact .inl ⟨x, t, rfl, rfl⟩
  | inr n => obtain ⟨t, rfl⟩ := Value.isInt_shape h; exact .inr ⟨n, t, rfl, rfl⟩

def mixKind (prog : Program) (w : World) : KeyKind prog w (Str ⊕ Int) where
  is := mixIs
  hash := fun k => match k with | .inl x => hashStr w x | .inr n => hashInt n
  inj := fun v a b ha hb => by
    rcases mixIs_cases ha with ⟨x, t, rfl, rfl⟩ | ⟨x, t, rfl, rfl⟩ <;> rcases mixIs_cases hb with ⟨y, u, rfl, e⟩ | ⟨y, u, rfl, e⟩ <;> cases e <;> rfl
  byValue := fun k v h => by rcases mixIs_cases h with ⟨x, t, rfl, rfl⟩ | ⟨x, t, rfl, rfl⟩ <;> rfl
  pyHash := fun hv h => by
    rcases mixIs_cases hv with ⟨x, t, rfl, rfl⟩ | ⟨x, t, rfl, rfl⟩
    · exact wpAny_pyHash_str h
    · exact wpAny_pyHash_int h
  eqBool := fun hu hv h => by
    rcases mixIs_cases hu with ⟨x, t, rfl, rfl⟩ | ⟨x, t, rfl, rfl⟩ <;> rcases mixIs_cases hv with ⟨y, u, rfl, rfl⟩ | ⟨y, u, rfl, rfl⟩
    · exact wpAny_eqBool_str (by rwa [show decide ((Sum.inl x : Str ⊕ Int) = .inl y) = decide (x = y) from by simp] at h)
    · exact eqB_si (by simpa using h)
    · exact eqB_is (by simpa using h)
    · exact wpAny_eqBool_int (by rwa [show decide ((Sum.inr x : Str ⊕ Int) = .inr y) = decide (x = y) from by simp] at h)
  «strs» := fun k x t v h => by
    rcases mixIs_cases h with ⟨y, u, rfl, e⟩ | ⟨y, u, rfl, e⟩
    · cases e
      cases v <;> rfl
    · cases e

def wAt : Str := Str.ofString "at"
def wSum : Str := Str.ofString "sum"
/-- the words of the key of n -/
def wordsK (n : Int) : List (Str ⊕ Int) := [.inl wAt, .inr n, .inl wSum]
theorem wordsK_inj {a b : Int} (h : wordsK a = wordsK b) : a = b := by
  simp only [wordsK, List.cons.injEq, Sum.inr.injEq, and_true, true_and] at h
  exact h

/-- the key tuple of n, as an object -/
def KeyObj (n : Int) (o : Obj) : Prop := o.cls = .type "tuple" ∧ ∃ t u v ep, o.data = .seq #[.str wAt t, .int n u, .str wSum v] ep
theorem keyItems {prog : Program} {w : World} (n : Int) (t u v : Tok) : ItemsAre (mixKind prog w) (wordsK n) [.str wAt t, .int n u, .str wSum v] := by
  refine .cons ?_ (.cons ?_ (.cons ?_ .nil))
  · show Value.isStrOf wAt (.str wAt t) = true; simp [Value.isStrOf]
  · show Value.isInt n (.int n u) = true; simp [Value.isInt]
  · show Value.isStrOf wSum (.str wSum v) = true; simp [Value.isStrOf]
theorem KeyObj.tup {prog : Program} {w : World} {h : Heap} {a : Addr} {n : Int} {o : Obj} (k : KeyObj n o) (ho : h.get? a = some o) : IsTupleKey (mixKind prog w) h (wordsK n) a := by
  obtain ⟨hc, t, u, v, ep, hd⟩ := k
  exact ⟨o, _, ep, ho, hc, hd, keyItems n t u v⟩

def keyKind (prog : Program) (w : World) : HeapKind prog w Int where
  is := fun h n a => IsTupleKey (mixKind prog w) h (wordsK n) a
  hash := fun n => tupleKeyHash (mixKind prog w) (wordsK n)
  draws := fun _ => 4
  room := fun A => A.units < cLine
  inj := fun hx hy => wordsK_inj (hx.inj hy)
  keeps := fun x ho hd hs => x.keeps ho hd hs
  pyHash := fun hu hk h => wpAny_pyHash_tuple hu hk h
  eqBool := fun hu hx hy h => wpAny_eqBool_tuple hu hx hy (by
    rename_i x y _ _ _
    have e : decide (wordsK x = wordsK y) = decide (x = y) := by
      by_cases q : x = y
      · subst q; simp
      · have : wordsK x ≠ wordsK y := fun e => q (wordsK_inj e)
        simp [q, this]
    rw [e]; exact h)
  quiet := fun hk h => wpAny_eqIsQuiet_tuple hk h
end
-- part MB
section
/-! walking over a dict whose entries are only looked at: items, keys, values -/
section
variable {prog : Program} {w : World} {A : Around} {E : Value → Shared → Prop} {s : Shared} {d it : Addr} {od : Obj} {es : Array DictEntry} {ep i : Nat} {en : DictEntry}

theorem seen_small (i : Nat) : ¬ ((i : Int) < 0) := by omega

/-- the common opening of the three iterators' next: it comes to the place i of the entries -/
theorem itemsNext {ok ov : Value} {Q : Option Value → Shared → Prop} (hit : IsItemIter s.heap it d i es.size ep ok ov) (hod : s.heap.get? d = some od) (hdd : od.data = .dict es ep) (hx : es[i]? = some en)
    (hQ : ∀ h', IsItemIterOut h' it d (i + 1) es.size ep en.key en.val s.heap.objs.size → h'.get? s.heap.objs.size = some { cls := .type "tuple", data := .seq #[en.key, en.val] } →
      (∀ b o, b ≠ it → s.heap.get? b = some o → h'.get? b = some o) → Q (some (.ref s.heap.objs.size)) { s with heap := h' }) :
    wpAny (model prog w) A (pyNext (.ref it)) Q E s := by
  obtain ⟨H, g, dr, tk, os⟩ := s
  have ty : ∀ h : Heap, (∃ ok ov i, IsItemIter h it d i es.size ep ok ov) → Shared.TypeIs ⟨h, g, dr, tk, os⟩ (.ref it) "dict_itemiterator" := fun h ⟨_, _, _, q⟩ => ⟨_, q, rfl⟩
  have hT := ty H ⟨_, _, _, hit⟩
  have hi : i < es.size := by
    rcases Nat.lt_or_ge i es.size with h | h
    · exact h
    · rw [Array.getElem?_eq_none h] at hx; cases hx
  have hown : Builtin.Dict_items.ownsTuple "dict_itemiterator" = true := by decide
  unfold pyNext
  refine wpAny_bind (wpAny_attempt (wpAny_callSpecial?_slot (name := Str.ofString "__next__") hT F.slot_dict_itemiterator_next (wpAny_call_entry F.slot_dict_itemiterator_next hT F.entry_dict_itemiterator_next ?_ (F.args_dict_itemiterator_next_1 _))))
  refine wpAny_bind (wpAny_pure (wpAny_bind (wpAny_bind ?_)))
  refine wpAny_bind (wpAny_typeNameOfWhole_itemiter hT (wpAny_pure (wpAny_bind (wpAny_fieldsOf hit rfl ?_))))
  simp only [hown, if_true]
  show wpAny _ _ (if (Value.ref d == Value.none) = true then _ else _) _ _ _
  rw [if_neg (fun q : (Value.ref d == Value.none) = true => Bool.false_ne_true q)]
  refine wpAny_bind (wpAny_pure (wpAny_bind (wpAny_dictEntries hod hdd ?_)))
  rw [if_neg (by simp)]
  refine wpAny_bind (wpAny_pure (wpAny_bind (wpAny_dictEpoch hod hdd ?_)))
  rw [if_neg (by simp)]
  refine wpAny_pure ?_
  simp only [seen_small, if_false, Int.toNat_natCast, hx]
  refine wpAny_bind (wpAny_bind (wpAny_typeNameOfWhole_itemiter hT (wpAny_pure (wpAny_bind (wpAny_isOneOf_itemiter hT ?_)))))
  show wpAny _ _ (setField (.ref it) 3 (rawInt ((i : Int) + 1)) >>= _) _ _ ⟨H, g, dr, tk, os⟩
  refine wpAny_bind (wpAny_setField_rec hit (by simp) fun h₁ he₁ hs₁ => ?_)
  have e₁ : IsItemIter h₁ it d (i + 1) es.size ep ok ov := by
    unfold IsItemIter
    rw [he₁]
    simp [rawInt]
  clear he₁
  have k₁ : ∀ b o, b ≠ it → H.get? b = some o → h₁.get? b = some o := fun b o hb e => hs₁.extBut b o hb e
  have z₁ : h₁.objs.size = H.objs.size := hs₁.1
  clear hs₁
  have hT₁ := ty h₁ ⟨_, _, _, e₁⟩
  refine wpAny_bind (wpAny_holding (wpAny_bind (wpAny_isOneOf_itemiter hT₁ (wpAny_bind (wpAny_isOneOf_itemiter hT₁ ?_)))))
  show wpAny _ _ (Builtin.Dict_items.pairFromOwner (.ref it) 6 en.key en.val) _ _ ⟨h₁, g, dr, tk, os⟩
  unfold Builtin.Dict_items.pairFromOwner
  refine wpAny_bind (wpAny_newTuple ?_)
  dsimp only
  rw [z₁]
  have e₂ : IsItemIter (h₁.push { cls := .type "tuple", data := .seq #[en.key, en.val] }) it d (i + 1) es.size ep ok ov := Heap.get?_push_of_some _ e₁
  have t₂ : (h₁.push { cls := .type "tuple", data := .seq #[en.key, en.val] }).get? H.objs.size = some { cls := .type "tuple", data := .seq #[en.key, en.val] } := z₁ ▸ Heap.get?_push_size _ rfl
  have k₂ : ∀ b o, b ≠ it → H.get? b = some o → (h₁.push { cls := .type "tuple", data := .seq #[en.key, en.val] }).get? b = some o := fun b o hb e => Heap.get?_push_of_some _ (k₁ b o hb e)
  revert e₂ t₂ k₂
  generalize (h₁.push { cls := .type "tuple", data := .seq #[en.key, en.val] }) = h₂
  intro e₂ t₂ k₂
  have ne : H.objs.size ≠ it := Nat.ne_of_gt (Heap.lt_size hit)
  refine wpAny_bind ?_
  unfold Builtin.Dict_items.ownedTupleIsFree
  refine wpAny_bind (wpAny_field e₂ rfl (x := .none) rfl (wpAny_pure ?_))
  simp only [if_true]
  refine wpAny_bind (wpAny_field e₂ rfl (x := ok) rfl (wpAny_bind (wpAny_field e₂ rfl (x := ov) rfl ?_)))
  refine wpAny_bind (wpAny_setField_rec e₂ (by simp) fun h₃ e₃ s₃ => wpAny_bind (wpAny_setField_rec e₃ (by simp) fun h₄ e₄ s₄ => wpAny_bind (wpAny_setField_rec e₄ (by simp) fun h₅ e₅ s₅ => wpAny_bind (wpAny_setField_rec e₅ (by simp) fun h₆ e₆ s₆ => ?_))))
  have last : ∀ b o, b ≠ it → h₂.get? b = some o → h₆.get? b = some o := fun b o hb e => s₆.extBut b o hb (s₅.extBut b o hb (s₄.extBut b o hb (s₃.extBut b o hb e)))
  exact wpAny_bind (wpAny_letGo (wpAny_pure (wpAny_pure ⟨_, rfl, wpAny_pure (hQ h₆ e₆ (last _ _ ne t₂) fun b o hb e => last b o hb (k₂ b o hb e))⟩)))

/-- StopIteration is raised and taken: the tail of every next at the end -/
theorem itemsEnd {ok ov : Value} {Q : Option Value → Shared → Prop} (hh : A.handled = none) (hit : IsItemIter s.heap it d es.size es.size ep ok ov) (hod : s.heap.get? d = some od) (hdd : od.data = .dict es ep)
    (hQ : ∀ h', Heap.ExtBut it s.heap h' → Q none { s with heap := h' }) : wpAny (model prog w) A (pyNext (.ref it)) Q E s := by
  have hT : s.TypeIs (.ref it) "dict_itemiterator" := ⟨_, hit, rfl⟩
  have hown : Builtin.Dict_items.ownsTuple "dict_itemiterator" = true := by decide
  unfold pyNext
  refine wpAny_bind (wpAny_attempt (wpAny_callSpecial?_slot (name := Str.ofString "__next__") hT F.slot_dict_itemiterator_next (wpAny_call_entry F.slot_dict_itemiterator_next hT F.entry_dict_itemiterator_next ?_ (F.args_dict_itemiterator_next_1 _))))
  refine wpAny_bind (wpAny_pure (wpAny_bind (wpAny_bind ?_)))
  refine wpAny_bind (wpAny_typeNameOfWhole_itemiter hT (wpAny_pure (wpAny_bind (wpAny_fieldsOf hit rfl ?_))))
  simp only [hown, if_true]
  show wpAny _ _ (if (Value.ref d == Value.none) = true then _ else _) _ _ _
  rw [if_neg (fun q : (Value.ref d == Value.none) = true => Bool.false_ne_true q)]
  refine wpAny_bind (wpAny_pure (wpAny_bind (wpAny_dictEntries hod hdd ?_)))
  rw [if_neg (by simp)]
  refine wpAny_bind (wpAny_pure (wpAny_bind (wpAny_dictEpoch hod hdd ?_)))
  rw [if_neg (by simp)]
  refine wpAny_pure ?_
  have hx : es[es.size]? = none := Array.getElem?_eq_none (Nat.le_refl _)
  simp only [seen_small, if_false, Int.toNat_natCast, hx]
  refine wpAny_bind (wpAny_bind (wpAny_typeNameOfWhole_itemiter hT (wpAny_pure ?_)))
  show wpAny _ _ (setField (.ref it) 2 .none >>= _) _ _ s
  refine wpAny_bind (wpAny_setField hit rfl (by simp) ?_)
  show wpAny _ _ (newExc (.type "StopIteration") [] >>= _) _ _ _
  simp only [newExc, newTuple]
  refine wpAny_bind (wpAny_bind (wpAny_newObj_type (wpAny_bind (m := firstArgMember _ _) (wpAny_of_eq (a := Value.none) (by first | rfl | (simp only [firstArgMember]; rfl)) (wpAny_newObj_type ?_ (by size_fits)))) (by size_fits)))
  simp only [raiseNew]
  refine wpAny_bind (wpAny_handled ?_)
  rw [show A.in1.handled = none from hh]
  refine wpAny_bind (wpAny_pure (wpAny_throw ?_))
  refine wpAny_bind (wpAny_isInstance (T := "StopIteration") (b := true) ⟨_, Heap.get?_push_size _ rfl, rfl⟩ isSubtype_stop ?_)
  exact wpAny_pure (hQ _ (((Heap.SameBut.update ..).extBut.push _).push _))

theorem itemsIter {v : Addr} {Q : Value → Shared → Prop} (hv : s.heap.IsItemsView v d) (hod : s.heap.get? d = some od) (hdd : od.data = .dict es ep)
    (hQ : Q (.ref s.heap.objs.size) { s with heap := s.heap.push { cls := .type "dict_itemiterator", data := .fields #[.none, .bool false, .ref d, .int 0 0, .int es.size 0, .int ep 0, .none, .none] } }) :
    wpAny (model prog w) A (pyIter (.ref v)) Q E s := by
  obtain ⟨ov, hov, hcv, hdv⟩ := id hv
  refine wpAny_pyIter_slot hv.typeIs F.slot_dict_items_iter (wpAny_call_entry F.slot_dict_items_iter hv.typeIs F.entry_dict_items_iter ?_ (F.args_dict_items_iter_1 _))
  unfold Builtin.«dict_items.__iter__»
  refine wpAny_bind (wpAny_pure (wpAny_bind ?_))
  unfold Builtin.Dict_items.dictOf
  refine wpAny_bind (wpAny_field hov hdv (x := .ref d) rfl (wpAny_pure (wpAny_bind ?_)))
  unfold Builtin.Dict_items.newIterator
  refine wpAny_bind (wpAny_dictEntries hod hdd (wpAny_bind (wpAny_dictEpoch hod hdd ?_)))
  have hown : Builtin.Dict_items.ownsTuple "dict_itemiterator" = true := by decide
  simp only [hown, if_true]
  refine wpAny_newObj_type (wpAny_pure ⟨_, rfl, "dict_itemiterator", _, ⟨_, Heap.get?_push_size _ rfl, rfl⟩, F.slot_dict_itemiterator_next.lookup, ?_⟩)
    (by simp only [sizeOk, Builtin.Dict_items.ownedTupleFields, List.size_toArray, List.length_append, List.length_cons, List.length_nil, sizeLine_eq]; omega)
  simpa [rawInt, Builtin.Dict_items.ownedTupleFields] using hQ

/-- the entries' dict stands -/
def RawAt (h : Heap) (d : Addr) (es : Array DictEntry) (ep : Nat) : Prop := ∃ o, h.get? d = some o ∧ o.ExactDict ∧ o.data = .dict es ep
theorem RawAt.at {h h' : Heap} (x : RawAt h d es ep) (e : ∀ o, h.get? d = some o → h'.get? d = some o) : RawAt h' d es ep := let ⟨o, ho, r⟩ := x; ⟨o, e o ho, r⟩
theorem RawAt.typeIs (x : RawAt s.heap d es ep) : s.TypeIs (.ref d) "dict" := let ⟨o, ho, hc, _⟩ := x; ⟨o, ho, hc.1⟩

theorem itemsTurns {elts : List Expr} {kk : Nat} {pos : Pos} (hh : A.handled = none) (I d : Addr) (hne : d ≠ I) (es : Array DictEntry) (ep : Nat) :
    KTurns prog w A (.Tuple elts kk pos) I [I, d] [I] es.size
      (fun i v h => ∃ T en, v = .ref T ∧ es[i]? = some en ∧ h.IsTuple T #[en.key, en.val])
      (fun i v h => ∃ T en ok ov, v = .ref T ∧ es[i]? = some en ∧ h.IsTuple T #[en.key, en.val] ∧ IsItemIterOut h I d (i + 1) es.size ep ok ov T ∧ RawAt h d es ep ∧ T ≠ I)
      (fun i h => (∃ ok ov, IsItemIter h I d i es.size ep ok ov) ∧ RawAt h d es ep) where
  sub := fun b hb => by simp at hb; simp [hb]
  frame := fun i h h' st hk => by
    obtain ⟨⟨ok, ov, he⟩, hm⟩ := st
    exact ⟨⟨ok, ov, hk I (by simp) _ he⟩, hm.at fun o e => hk d (by simp) o e⟩
  item := fun i s Q E hi st hQ => by
    obtain ⟨⟨ok, ov, he⟩, hm⟩ := st
    obtain ⟨o, ho, _, hd⟩ := id hm
    refine itemsNext (en := es[i]) he ho hd (Array.getElem?_eq_getElem hi) fun h' ho' hT hk => ?_
    exact hQ (.ref s.heap.objs.size) h' s.toks ⟨_, _, _, _, rfl, Array.getElem?_eq_getElem hi, ⟨_, hT, rfl, _, rfl⟩, ho', hm.at fun o e => hk d o hne e, Nat.ne_of_gt (Heap.lt_size he)⟩ fun b o hb e => hk b o (fun h => hb (by simp [h])) e
  go := fun i v s Q E hm hQ => by
    obtain ⟨T, en, ok, ov, rfl, hx, hT, ho, hd, hTI⟩ := hm
    refine wpAny_letOwnedTupleGo_items ho fun h' he hs => ?_
    exact hQ h' ⟨T, en, rfl, hx, hT.at fun o e => hs.extBut T o hTI e⟩ ⟨⟨ok, ov, he⟩, hd.at fun o e => hs.extBut d o hne e⟩ fun b o hb e => hs.extBut b o (fun h => hb (by simp [h])) e
  done := fun s Q E st hQ => by
    obtain ⟨⟨ok, ov, he⟩, hm⟩ := st
    obtain ⟨o, ho, _, hd⟩ := id hm
    exact itemsEnd hh he ho hd fun h' hx => hQ h' s.toks fun b o hb e => hx b o (fun h => hb (by simp [h])) e

/-! the keys -/
theorem keysIter {Q : Value → Shared → Prop} (hd : (d == sysModules) = false) (hm : RawAt s.heap d es ep)
    (hQ : Q (.ref s.heap.objs.size) { s with heap := s.heap.push { cls := .type "dict_keyiterator", data := .fields #[.ref d, .int 0 0, .int es.size 0, .int ep 0] } }) :
    wpAny (model prog w) A (pyIter (.ref d)) Q E s := by
  obtain ⟨o, ho, hc, hdat⟩ := id hm
  refine wpAny_pyIter_slot hm.typeIs F.slot_dict_iter (wpAny_call_entry F.slot_dict_iter hm.typeIs F.entry_dict_iter ?_ (F.args_dict_iter_1 _))
  unfold Builtin.«dict.__iter__»
  refine wpAny_bind ?_
  unfold Builtin.Dict.dictSlotNone
  refine wpAny_bind (wpAny_notOrdered_dict hm.typeIs ?_)
  show wpAny _ _ (pure (Value.ref d)) _ _ s
  refine wpAny_pure ?_
  show wpAny _ _ (Builtin.Dict.showsAll d >>= _) _ _ s
  unfold Builtin.Dict.showsAll
  rw [if_neg (by rw [hd]; exact Bool.false_ne_true)]
  refine wpAny_bind (wpAny_pure (wpAny_bind (wpAny_dictEntries ho hdat (wpAny_bind (wpAny_dictEpoch ho hdat ?_)))))
  refine wpAny_bind (wpAny_newObj_type (wpAny_pure ⟨_, rfl, "dict_keyiterator", _, ⟨_, Heap.get?_push_size _ rfl, rfl⟩, F.slot_dict_keyiterator_next.lookup, ?_⟩))
  simpa [rawInt] using hQ

theorem keysNext {Q : Option Value → Shared → Prop} (hit : s.heap.IsKeyIter it d i es.size ep) (hm : RawAt s.heap d es ep) (hx : es[i]? = some en)
    (hQ : ∀ h', h'.IsKeyIter it d (i + 1) es.size ep → Heap.SameBut it s.heap h' → Q (some en.key) { s with heap := h' }) : wpAny (model prog w) A (pyNext (.ref it)) Q E s := by
  obtain ⟨o, ho, hc, hd⟩ := id hit
  obtain ⟨od, hod, hcd, hdd⟩ := id hm
  have hown : Builtin.Dict_items.ownsTuple "dict_keyiterator" = false := by decide
  unfold pyNext
  refine wpAny_bind (wpAny_attempt (wpAny_callSpecial?_slot (name := Str.ofString "__next__") hit.typeIs F.slot_dict_keyiterator_next (wpAny_call_entry F.slot_dict_keyiterator_next hit.typeIs F.entry_dict_keyiterator_next ?_ (F.args_dict_keyiterator_next_1 _))))
  refine wpAny_bind (wpAny_pure (wpAny_bind (wpAny_bind (wpAny_bind (wpAny_typeNameOfWhole_keyiter hit.typeIs (wpAny_pure (wpAny_bind (wpAny_fieldsOf ho hd ?_))))))))
  simp only [hown, Bool.false_eq_true, if_false]
  show wpAny _ _ (if (Value.ref d == Value.none) = true then _ else _) _ _ s
  rw [if_neg (fun q : (Value.ref d == Value.none) = true => Bool.false_ne_true q)]
  refine wpAny_bind (wpAny_pure (wpAny_bind (wpAny_dictEntries hod hdd ?_)))
  rw [if_neg (by simp)]
  refine wpAny_bind (wpAny_pure (wpAny_bind (wpAny_dictEpoch hod hdd ?_)))
  rw [if_neg (by simp)]
  refine wpAny_pure ?_
  simp only [seen_small, if_false, Int.toNat_natCast, hx]
  refine wpAny_bind (wpAny_bind (wpAny_typeNameOfWhole_keyiter hit.typeIs (wpAny_pure (wpAny_bind (wpAny_isOneOf_keyiter hit.typeIs ?_)))))
  show wpAny _ _ (setField (.ref it) 1 (rawInt ((i : Int) + 1)) >>= _) _ _ s
  refine wpAny_bind (wpAny_setField ho hd (by simp) ?_)
  have hit' : (s.heap.update it (Obj.mapFields (·.setIfInBounds 1 (rawInt ((i : Int) + 1))))).IsKeyIter it d (i + 1) es.size ep :=
    ⟨_, Heap.get?_update_self _ ho (Obj.isFreed_of_fields (Obj.data_mapFields hd _)), (Obj.cls_mapFields ..).trans hc, by rw [Obj.data_mapFields hd]; simp [rawInt]⟩
  refine wpAny_bind (wpAny_holding (wpAny_bind (wpAny_isOneOf_keyiter (s := { s with heap := s.heap.update it (Obj.mapFields (·.setIfInBounds 1 (rawInt ((i : Int) + 1)))) }) hit'.typeIs ?_)))
  show wpAny _ _ (pure en.key) _ _ _
  exact wpAny_pure (wpAny_pure ⟨_, rfl, wpAny_pure (hQ _ hit' (Heap.SameBut.update ..))⟩)

theorem keysEnd {Q : Option Value → Shared → Prop} (hh : A.handled = none) (hit : s.heap.IsKeyIter it d es.size es.size ep) (hm : RawAt s.heap d es ep)
    (hQ : ∀ h', Heap.ExtBut it s.heap h' → Q none { s with heap := h' }) : wpAny (model prog w) A (pyNext (.ref it)) Q E s := by
  obtain ⟨o, ho, hc, hd⟩ := id hit
  obtain ⟨od, hod, hcd, hdd⟩ := id hm
  have hown : Builtin.Dict_items.ownsTuple "dict_keyiterator" = false := by decide
  unfold pyNext
  refine wpAny_bind (wpAny_attempt (wpAny_callSpecial?_slot (name := Str.ofString "__next__") hit.typeIs F.slot_dict_keyiterator_next (wpAny_call_entry F.slot_dict_keyiterator_next hit.typeIs F.entry_dict_keyiterator_next ?_ (F.args_dict_keyiterator_next_1 _))))
  refine wpAny_bind (wpAny_pure (wpAny_bind (wpAny_bind (wpAny_bind (wpAny_typeNameOfWhole_keyiter hit.typeIs (wpAny_pure (wpAny_bind (wpAny_fieldsOf ho hd ?_))))))))
  simp only [hown, Bool.false_eq_true, if_false]
  show wpAny _ _ (if (Value.ref d == Value.none) = true then _ else _) _ _ s
  rw [if_neg (fun q : (Value.ref d == Value.none) = true => Bool.false_ne_true q)]
  refine wpAny_bind (wpAny_pure (wpAny_bind (wpAny_dictEntries hod hdd ?_)))
  rw [if_neg (by simp)]
  refine wpAny_bind (wpAny_pure (wpAny_bind (wpAny_dictEpoch hod hdd ?_)))
  rw [if_neg (by simp)]
  refine wpAny_pure ?_
  have hx : es[es.size]? = none := Array.getElem?_eq_none (Nat.le_refl _)
  simp only [seen_small, if_false, Int.toNat_natCast, hx]
  refine wpAny_bind (wpAny_bind (wpAny_typeNameOfWhole_keyiter hit.typeIs (wpAny_pure ?_)))
  show wpAny _ _ (setField (.ref it) 0 .none >>= _) _ _ s
  refine wpAny_bind (wpAny_setField ho hd (by simp) ?_)
  show wpAny _ _ (newExc (.type "StopIteration") [] >>= _) _ _ _
  simp only [newExc, newTuple]
  refine wpAny_bind (wpAny_bind (wpAny_newObj_type (wpAny_bind (m := firstArgMember _ _) (wpAny_of_eq (a := Value.none) (by first | rfl | (simp only [firstArgMember]; rfl)) (wpAny_newObj_type ?_ (by size_fits)))) (by size_fits)))
  simp only [raiseNew]
  refine wpAny_bind (wpAny_handled ?_)
  rw [show A.in1.handled = none from hh]
  refine wpAny_bind (wpAny_pure (wpAny_throw ?_))
  refine wpAny_bind (wpAny_isInstance (T := "StopIteration") (b := true) ⟨_, Heap.get?_push_size _ rfl, rfl⟩ isSubtype_stop ?_)
  exact wpAny_pure (hQ _ (((Heap.SameBut.update ..).extBut.push _).push _))

theorem keysWalk (hh : A.handled = none) (I d : Addr) (hne : d ≠ I) (es : Array DictEntry) (ep : Nat) :
    Walks prog w A I [I, d] [I] es.size (fun i v => ∃ en, es[i]? = some en ∧ v = en.key) (fun i h => h.IsKeyIter I d i es.size ep ∧ RawAt h d es ep) where
  sub := fun b hb => by simp at hb; simp [hb]
  frame := fun _ _ _ st hk => ⟨st.1.at fun o e => hk I (by simp) o e, st.2.at fun o e => hk d (by simp) o e⟩
  item := fun i s Q E hi st hQ => keysNext st.1 st.2 (Array.getElem?_eq_getElem hi) fun h' hit' hs' =>
    hQ _ h' s.toks ⟨_, Array.getElem?_eq_getElem hi, rfl⟩ ⟨hit', st.2.at fun o e => hs'.extBut d o hne e⟩ fun b o hb e => hs'.extBut b o (fun h => hb (by simp [h])) e
  done := fun s Q E st hQ => keysEnd hh st.1 st.2 fun h' he' => hQ h' s.toks fun b o hb e => he' b o (fun h => hb (by simp [h])) e
  self := fun _ _ _ _ st hQ => wpAny_pyIter_keyiter st.1 hQ

/-! the values -/
theorem valsIter {v : Addr} {Q : Value → Shared → Prop} (hv : s.heap.IsValuesView v d) (hm : RawAt s.heap d es ep)
    (hQ : Q (.ref s.heap.objs.size) { s with heap := s.heap.push { cls := .type "dict_valueiterator", data := .fields #[.ref d, .int 0 0, .int es.size 0, .int ep 0] } }) :
    wpAny (model prog w) A (pyIter (.ref v)) Q E s := by
  obtain ⟨ov, hov, hcv, hdv⟩ := id hv
  obtain ⟨o, ho, hc, hdat⟩ := id hm
  refine wpAny_pyIter_slot hv.typeIs F.slot_dict_values_iter (wpAny_call_entry F.slot_dict_values_iter hv.typeIs F.entry_dict_values_iter ?_ (F.args_dict_values_iter_1 _))
  unfold Builtin.«dict_values.__iter__»
  refine wpAny_bind (wpAny_pure (wpAny_bind ?_))
  unfold Builtin.Dict_items.dictOf
  refine wpAny_bind (wpAny_field hov hdv (x := .ref d) rfl (wpAny_pure (wpAny_bind ?_)))
  unfold Builtin.Dict_items.newIterator
  refine wpAny_bind (wpAny_dictEntries ho hdat (wpAny_bind (wpAny_dictEpoch ho hdat ?_)))
  have hown : Builtin.Dict_items.ownsTuple "dict_valueiterator" = false := by decide
  simp only [hown, Bool.false_eq_true, if_false]
  refine wpAny_newObj_type (wpAny_pure ⟨_, rfl, "dict_valueiterator", _, ⟨_, Heap.get?_push_size _ rfl, rfl⟩, F.slot_dict_valueiterator_next.lookup, ?_⟩)
  simpa [rawInt] using hQ

theorem valsNext {Q : Option Value → Shared → Prop} (hit : s.heap.IsValIter it d i es.size ep) (hm : RawAt s.heap d es ep) (hx : es[i]? = some en)
    (hQ : ∀ h', h'.IsValIter it d (i + 1) es.size ep → Heap.SameBut it s.heap h' → Q (some en.val) { s with heap := h' }) : wpAny (model prog w) A (pyNext (.ref it)) Q E s := by
  obtain ⟨o, ho, hc, hd⟩ := id hit
  obtain ⟨od, hod, hcd, hdd⟩ := id hm
  have hown : Builtin.Dict_items.ownsTuple "dict_valueiterator" = false := by decide
  unfold pyNext
  refine wpAny_bind (wpAny_attempt (wpAny_callSpecial?_slot (name := Str.ofString "__next__") hit.typeIs F.slot_dict_valueiterator_next (wpAny_call_entry F.slot_dict_valueiterator_next hit.typeIs F.entry_dict_valueiterator_next ?_ (F.args_dict_valueiterator_next_1 _))))
  refine wpAny_bind (wpAny_pure (wpAny_bind (wpAny_bind (wpAny_bind (wpAny_typeNameOfWhole_valiter hit.typeIs (wpAny_pure (wpAny_bind (wpAny_fieldsOf ho hd ?_))))))))
  simp only [hown, Bool.false_eq_true, if_false]
  show wpAny _ _ (if (Value.ref d == Value.none) = true then _ else _) _ _ s
  rw [if_neg (fun q : (Value.ref d == Value.none) = true => Bool.false_ne_true q)]
  refine wpAny_bind (wpAny_pure (wpAny_bind (wpAny_dictEntries hod hdd ?_)))
  rw [if_neg (by simp)]
  refine wpAny_bind (wpAny_pure (wpAny_bind (wpAny_dictEpoch hod hdd ?_)))
  rw [if_neg (by simp)]
  refine wpAny_pure ?_
  simp only [seen_small, if_false, Int.toNat_natCast, hx]
  refine wpAny_bind (wpAny_bind (wpAny_typeNameOfWhole_valiter hit.typeIs (wpAny_pure (wpAny_bind (wpAny_isOneOf_valiter hit.typeIs ?_)))))
  show wpAny _ _ (setField (.ref it) 1 (rawInt ((i : Int) + 1)) >>= _) _ _ s
  refine wpAny_bind (wpAny_setField ho hd (by simp) ?_)
  have hit' : (s.heap.update it (Obj.mapFields (·.setIfInBounds 1 (rawInt ((i : Int) + 1))))).IsValIter it d (i + 1) es.size ep :=
    ⟨_, Heap.get?_update_self _ ho (Obj.isFreed_of_fields (Obj.data_mapFields hd _)), (Obj.cls_mapFields ..).trans hc, by rw [Obj.data_mapFields hd]; simp [rawInt]⟩
  refine wpAny_bind (wpAny_holding (wpAny_bind (wpAny_isOneOf_valiter (s := { s with heap := s.heap.update it (Obj.mapFields (·.setIfInBounds 1 (rawInt ((i : Int) + 1)))) }) hit'.typeIs
    (wpAny_bind (wpAny_isOneOf_valiter (s := { s with heap := s.heap.update it (Obj.mapFields (·.setIfInBounds 1 (rawInt ((i : Int) + 1)))) }) hit'.typeIs ?_)))))
  show wpAny _ _ (pure en.val) _ _ _
  exact wpAny_pure (wpAny_pure ⟨_, rfl, wpAny_pure (hQ _ hit' (Heap.SameBut.update ..))⟩)

theorem valsEnd {Q : Option Value → Shared → Prop} (hh : A.handled = none) (hit : s.heap.IsValIter it d es.size es.size ep) (hm : RawAt s.heap d es ep)
    (hQ : ∀ h', Heap.ExtBut it s.heap h' → Q none { s with heap := h' }) : wpAny (model prog w) A (pyNext (.ref it)) Q E s := by
  obtain ⟨o, ho, hc, hd⟩ := id hit
  obtain ⟨od, hod, hcd, hdd⟩ := id hm
  have hown : Builtin.Dict_items.ownsTuple "dict_valueiterator" = false := by decide
  unfold pyNext
  refine wpAny_bind (wpAny_attempt (wpAny_callSpecial?_slot (name := Str.ofString "__next__") hit.typeIs F.slot_dict_valueiterator_next (wpAny_call_entry F.slot_dict_valueiterator_next hit.typeIs F.entry_dict_valueiterator_next ?_ (F.args_dict_valueiterator_next_1 _))))
  refine wpAny_bind (wpAny_pure (wpAny_bind (wpAny_bind (wpAny_bind (wpAny_typeNameOfWhole_valiter hit.typeIs (wpAny_pure (wpAny_bind (wpAny_fieldsOf ho hd ?_))))))))
  simp only [hown, Bool.false_eq_true, if_false]
  show wpAny _ _ (if (Value.ref d == Value.none) = true then _ else _) _ _ s
  rw [if_neg (fun q : (Value.ref d == Value.none) = true => Bool.false_ne_true q)]
  refine wpAny_bind (wpAny_pure (wpAny_bind (wpAny_dictEntries hod hdd ?_)))
  rw [if_neg (by simp)]
  refine wpAny_bind (wpAny_pure (wpAny_bind (wpAny_dictEpoch hod hdd ?_)))
  rw [if_neg (by simp)]
  refine wpAny_pure ?_
  have hx : es[es.size]? = none := Array.getElem?_eq_none (Nat.le_refl _)
  simp only [seen_small, if_false, Int.toNat_natCast, hx]
  refine wpAny_bind (wpAny_bind (wpAny_typeNameOfWhole_valiter hit.typeIs (wpAny_pure ?_)))
  show wpAny _ _ (setField (.ref it) 0 .none >>= _) _ _ s
  refine wpAny_bind (wpAny_setField ho hd (by simp) ?_)
  show wpAny _ _ (newExc (.type "StopIteration") [] >>= _) _ _ _
  simp only [newExc, newTuple]
  refine wpAny_bind (wpAny_bind (wpAny_newObj_type (wpAny_bind (m := firstArgMember _ _) (wpAny_of_eq (a := Value.none) (by first | rfl | (simp only [firstArgMember]; rfl)) (wpAny_newObj_type ?_ (by size_fits)))) (by size_fits)))
  simp only [raiseNew]
  refine wpAny_bind (wpAny_handled ?_)
  rw [show A.in1.handled = none from hh]
  refine wpAny_bind (wpAny_pure (wpAny_throw ?_))
  refine wpAny_bind (wpAny_isInstance (T := "StopIteration") (b := true) ⟨_, Heap.get?_push_size _ rfl, rfl⟩ isSubtype_stop ?_)
  exact wpAny_pure (hQ _ (((Heap.SameBut.update ..).extBut.push _).push _))

theorem valsWalk (hh : A.handled = none) (I d : Addr) (hne : d ≠ I) (es : Array DictEntry) (ep : Nat) :
    Walks prog w A I [I, d] [I] es.size (fun i v => ∃ en, es[i]? = some en ∧ v = en.val) (fun i h => h.IsValIter I d i es.size ep ∧ RawAt h d es ep) where
  sub := fun b hb => by simp at hb; simp [hb]
  frame := fun _ _ _ st hk => ⟨st.1.at fun o e => hk I (by simp) o e, st.2.at fun o e => hk d (by simp) o e⟩
  item := fun i s Q E hi st hQ => valsNext st.1 st.2 (Array.getElem?_eq_getElem hi) fun h' hit' hs' =>
    hQ _ h' s.toks ⟨_, Array.getElem?_eq_getElem hi, rfl⟩ ⟨hit', st.2.at fun o e => hs'.extBut d o hne e⟩ fun b o hb e => hs'.extBut b o (fun h => hb (by simp [h])) e
  done := fun s Q E st hQ => valsEnd hh st.1 st.2 fun h' he' => hQ h' s.toks fun b o hb e => he' b o (fun h => hb (by simp [h])) e
  self := fun _ _ _ _ st hQ => wpAny_pyIter_valiter st.1 hQ
end
end
-- part MC
section
/-! plain tables -/
def intOf : Value → Int
  | .int i _ => i
  | _ => 0
def tabOf (xs : List (Int × Addr × Value)) : List (Int × Int) := xs.map fun x => (x.1, intOf x.2.2)
def putF (f : List (Int × Int)) (n c : Int) : List (Int × Int) := if (f.lookup n).isSome then f.map (fun p => if p.1 = n then (p.1, c) else p) else f ++ [(n, c)]
def addF (f : List (Int × Int)) (n c : Int) : List (Int × Int) := putF f n ((f.lookup n).getD 0 + c)

theorem lookup_tabOf (xs : List (Int × Addr × Value)) (n : Int) : (tabOf xs).lookup n = (atKey xs n).map fun p => intOf p.2 := by
  induction xs with
  | nil => rfl
  | cons x xs ih =>
    obtain ⟨k, a, v⟩ := x
    by_cases h : k = n
    · subst h; simp [tabOf, atKey]
    · have h' : ¬ n = k := fun e => h e.symm
      have hb : (n == k) = false := by simpa using h'
      simp only [tabOf, List.map_cons, List.lookup_cons, hb]
      rw [show (List.map (fun x : Int × Addr × Value => (x.1, intOf x.2.2)) xs).lookup n = (tabOf xs).lookup n from rfl, ih]
      simp [atKey, h]
theorem lookup_isSome (xs : List (Int × Addr × Value)) (n : Int) : ((tabOf xs).lookup n).isSome = (atKey xs n).isSome := by rw [lookup_tabOf]; simp
theorem tabOf_storedH (xs : List (Int × Addr × Value)) (n : Int) (a : Addr) (c : Int) (t : Tok) : tabOf (storedH xs n a (.int c t)) = putF (tabOf xs) n c := by
  unfold storedH putF
  rw [lookup_isSome]
  split
  · simp only [tabOf, List.map_map]
    refine List.map_congr_left fun x _ => ?_
    by_cases h : x.1 = n <;> simp [putAt, h, intOf]
  · simp [tabOf, intOf]
theorem lookup_none {f : List (Int × Int)} {n : Int} (h : n ∉ f.map (·.1)) : f.lookup n = none := by
  induction f with
  | nil => rfl
  | cons p r ih =>
    simp only [List.map_cons, List.mem_cons, not_or] at h
    have hb : (n == p.1) = false := by simpa using h.1
    obtain ⟨k, v⟩ := p
    simp only [List.lookup_cons, hb]
    exact ih h.2
theorem putF_take {f : List (Int × Int)} {i : Nat} {n c : Int} (hf : f[i]? = some (n, c)) (nd : (f.map (·.1)).Nodup) : putF (f.take i) n c = f.take (i + 1) := by
  have hn : n ∉ (f.take i).map (·.1) := by
    intro hm
    obtain ⟨⟨k, v⟩, hp, e⟩ := List.mem_map.mp hm
    dsimp only at e
    subst e
    obtain ⟨j, hj⟩ := List.mem_iff_getElem?.mp hp
    rw [List.getElem?_take] at hj
    split at hj
    · rename_i hji
      have h1 : (f.map (·.1))[i]? = some k := by rw [List.getElem?_map, hf]; rfl
      have h2 : (f.map (·.1))[j]? = some k := by rw [List.getElem?_map, hj]; rfl
      have := (List.getElem?_inj (List.getElem?_eq_some_iff.mp h1).1 nd).mp (h1.trans h2.symm)
      omega
    · cases hj
  unfold putF
  rw [lookup_none hn]
  simp [List.take_add_one, hf]
theorem tabOf_keys (xs : List (Int × Addr × Value)) : (tabOf xs).map (·.1) = xs.map (·.1) := by simp [tabOf]
theorem tabOf_length (xs : List (Int × Addr × Value)) : (tabOf xs).length = xs.length := by simp [tabOf]

/-! a dict of the ledger -/
section
variable {prog : Program} {w : World} {news news' : List (Addr × Obj)} {o : Obj} {f : List (Int × Int)}

structure DictX (prog : Program) (w : World) (news : List (Addr × Obj)) (o : Obj) (es : Array DictEntry) (ep : Nat) (xs : List (Int × Addr × Value)) (f : List (Int × Int)) : Prop where
  exact : o.ExactDict
  data : o.data = .dict es ep
  ent : es.toList = xs.map (entryOfKey (keyKind prog w))
  nodup : (xs.map (·.1)).Nodup
  keys : ∀ x ∈ xs, ∃ ok, (x.2.1, ok) ∈ news ∧ KeyObj x.1 ok
  vint : ∀ x ∈ xs, ∃ i t, x.2.2 = .int i t
  tab : tabOf xs = f
def DictO (prog : Program) (w : World) (news : List (Addr × Obj)) (o : Obj) (f : List (Int × Int)) : Prop := ∃ es ep xs, DictX prog w news o es ep xs f

theorem DictX.mono {es ep xs} (x : DictX prog w news o es ep xs f) (h : ∀ p ∈ news, p ∈ news') : DictX prog w news' o es ep xs f :=
  ⟨x.exact, x.data, x.ent, x.nodup, fun y hy => let ⟨ok, m, k⟩ := x.keys y hy; ⟨ok, h _ m, k⟩, x.vint, x.tab⟩
theorem DictO.mono (x : DictO prog w news o f) (h : ∀ p ∈ news, p ∈ news') : DictO prog w news' o f := let ⟨es, ep, xs, y⟩ := x; ⟨es, ep, xs, y.mono h⟩
theorem DictO.nodup (x : DictO prog w news o f) : (f.map (·.1)).Nodup := by
  obtain ⟨es, ep, xs, y⟩ := x
  rw [← y.tab, tabOf_keys]; exact y.nodup
theorem DictO.empty : DictO prog w news { cls := .type "dict", data := .dict #[] } [] :=
  ⟨#[], 0, [], ⟨rfl, rfl, rfl⟩, rfl, rfl, List.nodup_nil, fun _ h => (by cases h), fun _ h => (by cases h), rfl⟩
theorem DictO.ofNil {K : Type} [DecidableEq K] {knd : KeyKind prog w K} (hd : o.IsDictOf knd []) : DictO prog w news o [] := by
  obtain ⟨es, ep, hc, hdat, _, hp, _⟩ := hd
  have he : es.toList = [] := List.length_eq_zero_iff.mp hp.length
  exact ⟨es, ep, [], hc, hdat, by rw [he]; rfl, List.nodup_nil, fun _ h => (by cases h), fun _ h => (by cases h), rfl⟩

variable {h₀ h : Heap} {L d : Addr} {m : Str → Option Value}
theorem DictX.at {es ep xs} (x : DictX prog w news o es ep xs f) (N : News h₀ L h news) (hd : h.get? d = some o) : h.DictOfH (keyKind prog w) d xs :=
  ⟨o, es, ep, hd, x.exact, x.data, x.ent, fun y hy => let ⟨_, mq, k⟩ := x.keys y hy; k.tup (N.get mq), x.nodup⟩
theorem DictX.raw {es ep xs} (x : DictX prog w news o es ep xs f) (hd : h.get? d = some o) : RawAt h d es ep := ⟨o, hd, x.exact, x.data⟩
theorem DictX.size {es ep xs} (x : DictX prog w news o es ep xs f) : es.size = f.length := by rw [← Array.length_toList, x.ent, ← x.tab, tabOf_length]; simp
/-- the entry at a place -/
theorem DictX.entry {es ep xs} (x : DictX prog w news o es ep xs f) {i : Nat} {en : DictEntry} (he : es[i]? = some en) :
    ∃ n c a ok t, f[i]? = some (n, c) ∧ en.key = .ref a ∧ en.val = .int c t ∧ (a, ok) ∈ news ∧ KeyObj n ok := by
  have e1 : es.toList[i]? = some en := by rw [Array.getElem?_toList]; exact he
  rw [x.ent, List.getElem?_map] at e1
  obtain ⟨y, hy, rfl⟩ := Option.map_eq_some_iff.mp e1
  obtain ⟨ok, mq, k⟩ := x.keys y (List.mem_of_getElem? hy)
  obtain ⟨c, t, hv⟩ := x.vint y (List.mem_of_getElem? hy)
  refine ⟨y.1, c, y.2.1, ok, t, ?_, rfl, hv, mq, k⟩
  rw [← x.tab, tabOf, List.getElem?_map, hy]
  simp [hv, intOf]

/-- a heap's dict, seen by the ledger: its key tuples are of the ledger -/
theorem DictO.of_heap {xs : List (Int × Addr × Value)} (hx : h.DictOfH (keyKind prog w) d xs) (ho : h.get? d = some o) (hk : ∀ x ∈ xs, ∃ ok, (x.2.1, ok) ∈ news ∧ KeyObj x.1 ok) (hi : ∀ x ∈ xs, ∃ i t, x.2.2 = .int i t) :
    DictO prog w news o (tabOf xs) := by
  obtain ⟨o', es, ep, ho', hc, hd, he, _, hn⟩ := hx
  obtain rfl : o = o' := Option.some.inj (ho.symm.trans ho')
  exact ⟨es, ep, xs, hc, hd, he, hn, hk, hi, rfl⟩

variable {A : Around} {E : Value → Shared → Prop} {s : Shared} {a : Addr} {ok : Obj} {n : Int}

theorem tab_in {Q : Value → Shared → Prop} {b : Bool} (hb : (f.lookup n).isSome = b) (hu : A.units + 1 < cLine) (N : News h₀ L s.heap news) (hd : (d, o) ∈ news) (lo : (d == sysModules) = false) (D : DictO prog w news o f) (ha : (a, ok) ∈ news) (hk : KeyObj n ok)
    (h : Q (.bool b) { s with toks := s.toks + 4 }) : wpAny (model prog w) A (compareOp .In (.ref a) (.ref d)) Q E s := by
  obtain ⟨es, ep, xs, x⟩ := D
  subst hb
  refine wpAny_in_heap (knd := keyKind prog w) (k := n) hu (hk.tup (N.get ha)) lo (x.at N (N.get hd)) ?_
  rw [← lookup_isSome, x.tab]; exact h

theorem atKey_mem {xs : List (Int × Addr × Value)} {p : Addr × Value} (h : atKey xs n = some p) : (n, p) ∈ xs := by
  unfold atKey at h
  obtain ⟨y, hy, rfl⟩ := Option.map_eq_some_iff.mp h
  have h1 := List.find?_some hy
  have h2 := List.mem_of_find?_eq_some hy
  have h3 : y.1 = n := of_decide_eq_true h1
  rw [← h3]; exact h2

theorem tab_at {es ep xs} {c : Int} (x : DictX prog w news o es ep xs f) (hl : f.lookup n = some c) : ∃ b t, atKey xs n = some (b, .int c t) := by
  rw [← x.tab, lookup_tabOf] at hl
  obtain ⟨⟨b, v⟩, hp, hv⟩ := Option.map_eq_some_iff.mp hl
  obtain ⟨i, t, e⟩ := x.vint _ (atKey_mem hp)
  dsimp only at e hv
  subst e
  exact ⟨b, t, by rw [hp]; simp only [intOf] at hv; rw [hv]⟩
theorem tab_none {es ep xs} (x : DictX prog w news o es ep xs f) (hl : f.lookup n = none) : atKey xs n = none := by
  rw [← x.tab, lookup_tabOf] at hl
  simpa using hl

theorem tab_getItem {Q : Value → Shared → Prop} {c : Int} (hu : A.units + 1 < cLine) (N : News h₀ L s.heap news) (hd : (d, o) ∈ news) (D : DictO prog w news o f) (ha : (a, ok) ∈ news) (hk : KeyObj n ok) (hl : f.lookup n = some c)
    (h : ∀ t, Q (.int c t) { s with toks := s.toks + 4 }) : wpAny (model prog w) A (getItem (.ref d) (.ref a)) Q E s := by
  obtain ⟨es, ep, xs, x⟩ := D
  obtain ⟨b, t, hp⟩ := tab_at x hl
  exact wpAny_getItem_heap (knd := keyKind prog w) (k := n) hu (hk.tup (N.get ha)) (x.at N (N.get hd)) hp (h t)
theorem tab_item {value slice : Expr} {Q : Value → Shared → Prop} {c : Int} (hu : A.units + 1 < cLine) (N : News h₀ L s.heap news) (hd : (d, o) ∈ news) (D : DictO prog w news o f) (ha : (a, ok) ∈ news) (hk : KeyObj n ok) (hl : f.lookup n = some c)
    (h : ∀ t, Q (.int c t) { s with toks := s.toks + 4 })
    (hs : subscripted slice false (.ref d) (.ref a) = operate [.ref d, .ref a] (getItem (.ref d) (.ref a)) := by with_unfolding_all rfl) (hg : ∀ r, letTemporaryGo value (.ref d) r = pure () := by intro _; with_unfolding_all rfl) :
    wpAny (model prog w) A (subscriptTail value slice (.ref d) (.ref a)) Q E s := by
  obtain ⟨es, ep, xs, x⟩ := id D
  exact subscriptTail_builtin (x.at N (N.get hd)).typeIs slot_dict_getitem.lookup (tab_getItem hu N hd D ha hk hl h) hs hg
theorem tab_method {name : Str} {id : String} {pl : Sem Bool} {Q : Value × List Value → Shared → Prop} (slot : Slot "dict" name id) (hty : typeOf (.builtin id) = pure (.type "method_descriptor")) (N : News h₀ L s.heap news) (hd : (d, o) ∈ news) (D : DictO prog w news o f)
    (h : Q (.builtin id, [.ref d]) s) : wpAny (model prog w) A (getMethod (.ref d) name pl) Q E s := by
  obtain ⟨es, ep, xs, x⟩ := D
  exact getMethod_builtin (x.raw (N.get hd)).typeIs PySem.F.plainAttrs_dict slot hty (fun b e => by injection e with e; subst e; exact ⟨o, N.get hd, x.exact.2.1⟩) h
theorem tab_get {Q : Value → Shared → Prop} {df : Int} {t₀ : Tok} (hu : A.units + 1 < cLine) (N : News h₀ L s.heap news) (hd : (d, o) ∈ news) (lo : (d == sysModules) = false) (D : DictO prog w news o f) (ha : (a, ok) ∈ news) (hk : KeyObj n ok)
    (h : ∀ t, Q (.int ((f.lookup n).getD df) t) { s with toks := s.toks + 4 }) : wpAny (model prog w) A (call (.builtin "dict.get") [.ref d, .ref a, .int df t₀]) Q E s := by
  obtain ⟨es, ep, xs, x⟩ := D
  have hD := x.at N (N.get hd)
  refine call_meetsIn PySem.F.slot_dict_get hD.typeIs PySem.F.entry_dict_get (PySem.F.args_dict_get_3 _ _ _) (meetsH_dict_get_default (keyKind prog w) d a lo (.int df t₀)) ⟨hu, n, xs, hk.tup (N.get ha), hD, ?_⟩
  cases hl : f.lookup n with
  | some c =>
    obtain ⟨b, t, hp⟩ := tab_at x hl
    rw [hp]
    have := h t
    rw [hl] at this
    exact this
  | none =>
    rw [tab_none x hl]
    have := h t₀
    rw [hl] at this
    exact this

theorem tab_set {base : List (Addr × Obj)} {Q : Unit → Shared → Prop} {c : Int} {t : Tok} (hu : A.units + 1 < cLine) (F : Fr h₀ L s.heap m) (N : News h₀ L s.heap ((d, o) :: news)) (hnd : ∀ p ∈ news, p.1 ≠ d) (hb : ∀ p ∈ base, p ∈ news) (D : DictO prog w base o f) (ha : (a, ok) ∈ base) (hk : KeyObj n ok)
    (hsz : f.length ≤ 100000)
    (h : ∀ h' o', Fr h₀ L h' m → News h₀ L h' ((d, o') :: news) → DictO prog w base o' (putF f n c) → Q () { s with heap := h', toks := s.toks + 4 }) :
    wpAny (model prog w) A (setItem (.ref d) (.ref a) (.int c t)) Q E s := by
  obtain ⟨es, ep, xs, x⟩ := D
  have N₁ : News h₀ L s.heap news := fun p hp => N p (.tail _ hp)
  have N₂ : News h₀ L s.heap base := fun p hp => N₁ p (hb p hp)
  have hD := x.at N₂ (N.get (.head _))
  have hsz' : xs.length ≤ sizeLine := by
    rw [← tabOf_length, x.tab, sizeLine_eq]
    exact Nat.le_trans hsz (by decide)
  refine wpAny_setItem_heap (hsz := hsz') (knd := keyKind prog w) (k := n) hu (hk.tup (N₂.get ha)) hD fun h' hD' hs => ?_
  obtain ⟨o', es', ep', ho', hc', hd', he', _, hn'⟩ := hD'
  refine h h' o' (F.change hs (N _ (.head _)).2.1 (N.fresh (.head _))) ?_ ?_
  · intro p hp
    rcases List.mem_cons.mp hp with rfl | hp
    · exact ⟨ho', (N _ (.head _)).2⟩
    · exact ⟨(hs.2 p.1 (hnd p hp)).trans (N₁ p hp).1, (N₁ p hp).2⟩
  · refine ⟨es', ep', storedH xs n a (.int c t), hc', hd', he', hn', fun y hy => ?_, fun y hy => ?_, by rw [tabOf_storedH, x.tab]⟩
    · rcases mem_storedH hy with ⟨z, hz, e1, e2⟩ | ⟨e1, e2⟩
      · obtain ⟨okz, mz, kz⟩ := x.keys z hz
        exact ⟨okz, by rw [e2]; exact mz, by rw [e1]; exact kz⟩
      · exact ⟨ok, by rw [e2]; exact ha, by rw [e1]; exact hk⟩
    · unfold storedH at hy
      split at hy
      · obtain ⟨z, hz, rfl⟩ := List.mem_map.mp hy
        unfold putAt
        split
        · exact ⟨c, t, rfl⟩
        · exact x.vint z hz
      · rcases List.mem_append.mp hy with hy | hy
        · exact x.vint y hy
        · simp only [List.mem_singleton] at hy
          subst hy
          exact ⟨c, t, rfl⟩

theorem tab_items {Q : Value → Shared → Prop} (F : Fr h₀ L s.heap m) (N : News h₀ L s.heap news) (hd : (d, o) ∈ news) (lo : (d == sysModules) = false) (D : DictO prog w news o f)
    (h : ∀ h', h'.IsItemsView s.heap.objs.size d → Fr h₀ L h' m → News h₀ L h' news → Q (.ref s.heap.objs.size) { s with heap := h' }) :
    wpAny (model prog w) A (call (.builtin "dict.items") [.ref d]) Q E s := by
  obtain ⟨es, ep, xs, x⟩ := D
  have hT := (x.raw (N.get hd)).typeIs
  refine wpAny_call_entry PySem.F.slot_dict_items hT PySem.F.entry_dict_items ?_ (PySem.F.args_dict_items_1 _)
  unfold Builtin.«dict.items»
  refine wpAny_bind ?_
  unfold Builtin.Dict.noArgs
  refine wpAny_bind (wpAny_notOrdered_dict hT ?_)
  show wpAny _ _ (pure d) _ _ s
  refine wpAny_pure ?_
  show wpAny _ _ (Builtin.Dict.showsAll d >>= _) _ _ s
  unfold Builtin.Dict.showsAll
  rw [if_neg (by rw [lo]; exact Bool.false_ne_true)]
  refine wpAny_bind (wpAny_pure (wpAny_bind (wpAny_newObj_type (wpAny_pure ⟨_, rfl, ?_⟩))))
  exact h _ ⟨_, Heap.get?_push_size _ rfl, rfl, rfl⟩ (F.push _) fun p hp => ⟨Heap.get?_push_of_some _ (N p hp).1, (N p hp).2⟩
end
end
-- part MD
section
section
variable {h₀ h : Heap} {L : Addr} {m : Str → Option Value} {x y z t : Str} {v u r q : Value}
theorem known_eq (hx : m x = some v) : (fun k => if k = x then some v else m k) = m := by
  funext k
  by_cases q : k = x
  · simp [q, hx]
  · simp [q]
theorem known (F : Fr h₀ L h m) (hx : m x = some v) : Fr h₀ L h (fun k => if k = x then some v else m k) := by rw [known_eq hx]; exact F
theorem known2 (F : Fr h₀ L h m) (hx : m x = some v) (hy : m y = some u) : Fr h₀ L h (fun k => if k = x then some v else if k = y then some u else m k) := by
  have e := known_eq hy
  have e2 : (fun k => if k = x then some v else if k = y then some u else m k) = fun k => if k = x then some v else m k := funext fun k => congrArg (fun w => if k = x then some v else w) (congrFun e k)
  rw [e2]; exact known F hx
theorem known3 (F : Fr h₀ L h m) (hx : m x = some v) (hy : m y = some u) (hz : m z = some r) : Fr h₀ L h (fun k => if k = x then some v else if k = y then some u else if k = z then some r else m k) := by
  have e := known_eq hz
  have e2 : (fun k => if k = x then some v else if k = y then some u else if k = z then some r else m k) = fun k => if k = x then some v else if k = y then some u else m k :=
    funext fun k => congrArg (fun w => if k = x then some v else if k = y then some u else w) (congrFun e k)
  rw [e2]; exact known2 F hx hy
theorem known4 (F : Fr h₀ L h m) (hx : m x = some v) (hy : m y = some u) (hz : m z = some r) (ht : m t = some q) : Fr h₀ L h (fun k => if k = x then some v else if k = y then some u else if k = z then some r else if k = t then some q else m k) := by
  have e := known_eq ht
  have e2 : (fun k => if k = x then some v else if k = y then some u else if k = z then some r else if k = t then some q else m k) = fun k => if k = x then some v else if k = y then some u else if k = z then some r else m k :=
    funext fun k => congrArg (fun w => if k = x then some v else if k = y then some u else if k = z then some r else w) (congrFun e k)
  rw [e2]; exact known3 F hx hy hz
end

section
variable {prog : Program} {w : World} {A : Around} {E : Value → Shared → Prop} {s : Shared} {env : Env} {h₀ : Heap} {target : Expr} {body : List Stmt} {Q : Flow → Shared → Prop}

/-- a turn has come to its end: the iterator stands as it stood, the word holds of the rest -/
def EndI (h₀ : Heap) (L I : Addr) (oI : Obj) (J : (Str → Option Value) → List (Addr × Obj) → Prop) (s₁ s₂ : Shared) : Prop :=
  ∃ h' tk m' news', s₂ = { s₁ with heap := h', toks := tk } ∧ Fr h₀ L h' m' ∧ News h₀ L h' ((I, oI) :: news') ∧ (∀ p ∈ news', p.1 ≠ I) ∧ J m' news'
def PostI (h₀ : Heap) (L I : Addr) (oI : Obj) (J : (Str → Option Value) → List (Addr × Obj) → Prop) (s₁ : Shared) (Q : Flow → Shared → Prop) (f : Flow) (s₂ : Shared) : Prop :=
  match f with
  | .ret v => Q (.ret v) s₂
  | .brk => Q .next s₂
  | _ => EndI h₀ L I oI J s₁ s₂
theorem EndI.intro {L I : Addr} {oI : Obj} {J : (Str → Option Value) → List (Addr × Obj) → Prop} {s₁ : Shared} {h' : Heap} {tk : Nat} {m' : Str → Option Value} {all : List (Addr × Obj)} (F : Fr h₀ L h' m') (N : News h₀ L h' all) (news' : List (Addr × Obj))
    (hI : (I, oI) ∈ all) (sub : ∀ p ∈ news', p ∈ all) (off : ∀ p ∈ news', p.1 ≠ I) (j : J m' news') : EndI h₀ L I oI J s₁ { s₁ with heap := h', toks := tk } :=
  ⟨h', tk, m', news', rfl, F, fun p hp => by
    rcases List.mem_cons.mp hp with rfl | hp
    · exact N _ hI
    · exact N p (sub p hp), off, j⟩

theorem PostI.next {L I : Addr} {oI : Obj} {J : (Str → Option Value) → List (Addr × Obj) → Prop} {s₁ s₂ : Shared} (h : EndI h₀ L I oI J s₁ s₂) : PostI h₀ L I oI J s₁ Q .next s₂ := h
theorem PostI.cont {L I : Addr} {oI : Obj} {J : (Str → Option Value) → List (Addr × Obj) → Prop} {s₁ s₂ : Shared} (h : EndI h₀ L I oI J s₁ s₂) : PostI h₀ L I oI J s₁ Q .cont s₂ := h

theorem turnsAt_of {I : Addr} {fp : List Addr} {n : Nat} {P Md : Nat → Value → Heap → Prop} {St : Nat → Heap → Prop} {m : Str → Option Value} {news : List (Addr × Obj)} (keep : List (Addr × Obj)) (W : KTurns prog w A target I fp [I] n P Md St)
    (hI : I ∈ fp) (hfp : ∀ b ∈ fp, b = I ∨ (∃ o, (b, o) ∈ keep) ∨ ∃ o, h₀.get? b = some o) (hnew : h₀.get? I = none) (hIL : env.locals ≠ I) (hoff : ∀ p ∈ news, p.1 ≠ I) (hst : St 0 s.heap) (hob : ∀ i h, St i h → ∃ o, h.get? I = some o)
    (F : Fr h₀ env.locals s.heap m) (N : News h₀ env.locals s.heap news) (J : Nat → (Str → Option Value) → List (Addr × Obj) → Prop) (h0 : J 0 m news) (hkeep : ∀ i m n, J i m n → ∀ p ∈ keep, p ∈ n)
    (step : ∀ i v m₁ news₁ h₁ tk₁ oI, i < n → P i v h₁ → J i m₁ news₁ → (∀ p ∈ news₁, p.1 ≠ I) → Fr h₀ env.locals h₁ m₁ → News h₀ env.locals h₁ ((I, oI) :: news₁) →
      wpAny (model prog w) A (assign target env v) (fun _ s₂ => wpAny (model prog w) A (execs body env) (PostI h₀ env.locals I oI (J (i + 1)) { s with heap := h₁, toks := tk₁ } Q) E s₂) E { s with heap := h₁, toks := tk₁ })
    (done : ∀ h' tk m' news', Fr h₀ env.locals h' m' → News h₀ env.locals h' news' → J n m' news' → Q .next { s with heap := h', toks := tk }) :
    TurnsAt prog w A h₀ env target body Q E (.ref I) s := by
  refine ⟨I, fp, [I], n, P, Md, St, m, news, J, rfl, W, ?_, ?_, ?_, hst, F, N, h0, ?_, fun h' tk m' news' F' N' _ hJ => done h' tk m' news' F' N' hJ⟩
  · intro hm
    rcases hfp _ hm with e | ⟨o, ho⟩ | ⟨o, ho⟩
    · exact hIL e
    · exact (N _ (hkeep 0 m news h0 _ ho)).2.1 rfl
    · exact Nat.lt_irrefl _ (Nat.lt_of_lt_of_le (Heap.lt_size ho) F.above)
  · intro b hb; rw [List.mem_singleton.mp hb]; exact hnew
  · intro p hp hb; exact hoff p hp (List.mem_singleton.mp hb)
  · intro i v m₁ news₁ h₁ tk₁ own hin hP hJ hoff₁ hown hget hall hst₁ F₁ N₁
    obtain ⟨oI, hoI⟩ := hob _ _ hst₁
    have hIo : (I, oI) ∈ own := hall I hI hnew oI hoI
    have N₂ : News h₀ env.locals h₁ ((I, oI) :: news₁) := fun p hp => by
      rcases List.mem_cons.mp hp with rfl | hp
      · exact N₁ _ (List.mem_append_left _ hIo)
      · exact N₁ _ (List.mem_append_right _ hp)
    have hsub : ∀ p ∈ own, p = (I, oI) ∨ p ∈ news₁ := fun p hp => by
      rcases hfp p.1 (hown p hp) with e | ⟨o, ho⟩ | ⟨o, ho⟩
      · have := hget p hp
        rw [e, hoI] at this
        exact .inl (Prod.ext e (Option.some.inj this).symm)
      · have h2 := hkeep i m₁ news₁ hJ _ ho
        have h3 := (N₁ _ (List.mem_append_right _ h2)).1
        rw [hget p hp] at h3
        exact .inr (by rw [show p = (p.1, o) from Prod.ext rfl (Option.some.inj h3)]; exact h2)
      · have := (N₁ p (List.mem_append_left _ hp)).2.2
        rw [ho] at this; cases this
    have fin : ∀ s₂, EndI h₀ env.locals I oI (J (i + 1)) { s with heap := h₁, toks := tk₁ } s₂ → LoopStepU h₀ env.locals [I] own (J (i + 1)) { s with heap := h₁, toks := tk₁ } .next s₂ := by
      rintro s₂ ⟨h', tk, m', news', e, F', N', off', hJ'⟩
      refine ⟨rfl, h', tk, m', news', e, F', fun p hp => ?_, fun p hp hb => off' p hp (List.mem_singleton.mp hb), hJ'⟩
      rcases List.mem_append.mp hp with hp | hp
      · rcases hfp p.1 (hown p hp) with e | ⟨o, ho⟩ | ⟨o, ho⟩
        · have := hget p hp
          rw [e, hoI] at this
          rw [show p = (I, oI) from Prod.ext e (Option.some.inj this).symm]
          exact N' _ (.head _)
        · have h2 := hkeep i m₁ news₁ hJ _ ho
          have h3 := (N₁ _ (List.mem_append_right _ h2)).1
          rw [hget p hp] at h3
          have h4 := hkeep (i + 1) m' news' hJ' _ ho
          rw [show p = (p.1, o) from Prod.ext rfl (Option.some.inj h3)]
          exact N' _ (.tail _ h4)
        · have := (N₁ p (List.mem_append_left _ hp)).2.2
          rw [ho] at this; cases this
      · exact N' p (.tail _ hp)
    refine wpAny_mono (step i v m₁ news₁ h₁ tk₁ oI hin hP hJ (fun p hp e => hoff₁ p hp (by rw [e]; exact List.mem_singleton.mpr rfl)) F₁ N₂) (fun _ s₂ h₂ => wpAny_mono h₂ (fun f s₃ h₃ => ?_) fun _ _ e => e) fun _ _ e => e
    cases f with
    | ret v => exact h₃
    | brk => exact h₃
    | cont => exact .cont (fin _ h₃)
    | next => exact .next (fin _ h₃)

/-- for K, V in D.items(): D's table stands in the ledger -/
theorem items_loop {elts : List Expr} {kk : Nat} {tpos : Pos} {d vw : Addr} {od : Obj} {f : List (Int × Int)} {m : Str → Option Value} {news : List (Addr × Obj)} {base : List (Addr × Obj)}
    (hh : A.handled = none) (F : Fr h₀ env.locals s.heap m) (N : News h₀ env.locals s.heap news) (hvw : s.heap.IsItemsView vw d) (hm : (d, od) ∈ news) (D : DictO prog w base od f)
    (J : Nat → (Str → Option Value) → List (Addr × Obj) → Prop) (h0 : J 0 m news) (hkeep : ∀ i m n, J i m n → (d, od) ∈ n)
    (step : ∀ I, (∀ p ∈ news, p.1 < I) → ∀ i n c a ok t T m₁ news₁ h₁ tk₁ oI, f[i]? = some (n, c) → (a, ok) ∈ base → KeyObj n ok → J i m₁ news₁ → (∀ p ∈ news₁, p.1 ≠ I) → IsTup h₁ T #[.ref a, .int c t] → Fr h₀ env.locals h₁ m₁ → News h₀ env.locals h₁ ((I, oI) :: news₁) →
      wpAny (model prog w) A (assign (.Tuple elts kk tpos) env (.ref T)) (fun _ s₂ => wpAny (model prog w) A (execs body env) (PostI h₀ env.locals I oI (J (i + 1)) { s with heap := h₁, toks := tk₁ } Q) E s₂) E { s with heap := h₁, toks := tk₁ })
    (done : ∀ h' tk m' news', Fr h₀ env.locals h' m' → News h₀ env.locals h' news' → J f.length m' news' → Q .next { s with heap := h', toks := tk }) :
    wpAny (model prog w) A (pyIter (.ref vw)) (fun it s₂ => TurnsAt prog w A h₀ env (.Tuple elts kk tpos) body Q E it s₂) E s := by
  obtain ⟨es, ep, xs, x⟩ := D
  obtain ⟨hd1, hd2, hd3⟩ := N _ hm
  have hlt := Heap.lt_size hd1
  refine itemsIter hvw hd1 x.data ?_
  have hz : es.size = f.length := x.size
  have hlN : ∀ p ∈ news, p.1 < s.heap.objs.size := fun p hp => Heap.lt_size (N p hp).1
  refine turnsAt_of [(d, od)] (itemsTurns hh s.heap.objs.size d (Nat.ne_of_lt hlt) es ep) (by simp) (fun b hb => ?_) (next_is_new F) ?_ (fun p hp => Nat.ne_of_lt (hlN p hp)) ⟨⟨.none, .none, Heap.get?_push_size _ rfl⟩, (x.raw hd1).at fun o e => Heap.get?_push_of_some _ e⟩
    (fun i h st => let ⟨⟨ok, ov, he⟩, _⟩ := st; ⟨_, he⟩) (F.push _) (fun p hp => ⟨Heap.get?_push_of_some _ (N p hp).1, (N p hp).2⟩) J h0 (fun i m n hJ p hp => by rw [List.mem_singleton.mp hp]; exact hkeep i m n hJ) ?_ (fun h' tk m' news' F' N' hJ => done h' tk m' news' F' N' (hz ▸ hJ))
  · have hb' : b = s.heap.objs.size ∨ b = d := by simpa using hb
    rcases hb' with e | e
    · exact .inl e
    · exact .inr (.inl ⟨od, by simp [e]⟩)
  · exact Nat.ne_of_lt F.ns.lt
  · rintro i v m₁ news₁ h₁ tk₁ oI hin ⟨T, en, rfl, hen, hT⟩ hJ hoff F₁ N₁
    obtain ⟨n, c, a, ok, t, hf, e1, e2, hak, hk⟩ := x.entry hen
    rw [e1, e2] at hT
    exact step _ hlN i n c a ok t T m₁ news₁ h₁ tk₁ oI hf hak hk hJ hoff hT F₁ N₁
end
end
-- part ME
section
section
variable {prog : Program} {w : World} {A : Around} {E : Value → Shared → Prop} {s : Shared} {h₀ : Heap} {L d : Addr} {m : Str → Option Value} {news : List (Addr × Obj)} {o : Obj} {f : List (Int × Int)} {env : Env}

theorem tab_values {Q : Value → Shared → Prop} (F : Fr h₀ L s.heap m) (N : News h₀ L s.heap news) (hd : (d, o) ∈ news) (lo : (d == sysModules) = false) (D : DictO prog w news o f)
    (h : ∀ h', h'.IsValuesView s.heap.objs.size d → Fr h₀ L h' m → News h₀ L h' news → Q (.ref s.heap.objs.size) { s with heap := h' }) :
    wpAny (model prog w) A (call (.builtin "dict.values") [.ref d]) Q E s := by
  obtain ⟨es, ep, xs, x⟩ := D
  have hT := (x.raw (N.get hd)).typeIs
  refine wpAny_call_entry PySem.F.slot_dict_values hT PySem.F.entry_dict_values ?_ (PySem.F.args_dict_values_1 _)
  unfold Builtin.«dict.values»
  refine wpAny_bind ?_
  unfold Builtin.Dict.noArgs
  refine wpAny_bind (wpAny_notOrdered_dict hT ?_)
  show wpAny _ _ (pure d) _ _ s
  refine wpAny_pure ?_
  show wpAny _ _ (Builtin.Dict.showsAll d >>= _) _ _ s
  unfold Builtin.Dict.showsAll
  rw [if_neg (by rw [lo]; exact Bool.false_ne_true)]
  refine wpAny_bind (wpAny_pure (wpAny_bind (wpAny_newObj_type (wpAny_pure ⟨_, rfl, ?_⟩))))
  exact h _ ⟨_, Heap.get?_push_size _ rfl, rfl, rfl⟩ (F.push _) fun p hp => ⟨Heap.get?_push_of_some _ (N p hp).1, (N p hp).2⟩

theorem tab_dictSet {base : List (Addr × Obj)} {a : Addr} {ok : Obj} {n : Int} {Q : Unit → Shared → Prop} {c : Int} {t : Tok} (hu : A.units < cLine) (F : Fr h₀ L s.heap m) (N : News h₀ L s.heap ((d, o) :: news)) (hnd : ∀ p ∈ news, p.1 ≠ d) (hb : ∀ p ∈ base, p ∈ news) (D : DictO prog w base o []) (ha : (a, ok) ∈ base) (hk : KeyObj n ok)
    (h : ∀ h' o', Fr h₀ L h' m → News h₀ L h' ((d, o') :: news) → DictO prog w base o' [(n, c)] → Q () { s with heap := h', toks := s.toks + 4 }) :
    wpAny (model prog w) A (dictSet d (.ref a) (.int c t)) Q E s := by
  obtain ⟨es, ep, xs, x⟩ := D
  have N₁ : News h₀ L s.heap news := fun p hp => N p (.tail _ hp)
  have N₂ : News h₀ L s.heap base := fun p hp => N₁ p (hb p hp)
  have hx : xs = [] := by
    have := x.tab
    cases xs with
    | nil => rfl
    | cons y r => simp [tabOf] at this
  subst hx
  refine wpAny_dictSet_heap (hsz := Nat.zero_le _) (knd := keyKind prog w) (k := n) hu (hk.tup (N₂.get ha)) (x.at N₂ (N.get (.head _))) fun h' hD' hs => ?_
  obtain ⟨o', es', ep', ho', hc', hd', he', _, hn'⟩ := hD'
  refine h h' o' (F.change hs (N _ (.head _)).2.1 (N.fresh (.head _))) ?_ ?_
  · intro p hp
    rcases List.mem_cons.mp hp with rfl | hp
    · exact ⟨ho', (N _ (.head _)).2⟩
    · exact ⟨(hs.2 p.1 (hnd p hp)).trans (N₁ p hp).1, (N₁ p hp).2⟩
  · refine ⟨es', ep', storedH [] n a (.int c t), hc', hd', he', hn', fun y hy => ?_, fun y hy => ?_, by rw [tabOf_storedH]; rfl⟩
    · simp only [storedH, atKey, List.find?_nil, Option.map_none, Option.isSome_none, Bool.false_eq_true, if_false, List.nil_append, List.mem_singleton] at hy
      subst hy
      exact ⟨ok, ha, hk⟩
    · simp only [storedH, atKey, List.find?_nil, Option.map_none, Option.isSome_none, Bool.false_eq_true, if_false, List.nil_append, List.mem_singleton] at hy
      subst hy
      exact ⟨c, t, rfl⟩

/-- {K: V}, the dict made ahead of its key -/
theorem dict_one {k v : Expr} {pos : Pos} {Q : Value → Shared → Prop} (F : Fr h₀ L s.heap m) (N : News h₀ L s.heap news) (hbig : h₀.NoLimit)
    (h : ∀ d h' o, Fr h₀ L h' m → News h₀ L h' ((d, o) :: news) → (∀ p ∈ news, p.1 < d) → (d == sysModules) = false → (∀ base, DictO prog w base o []) →
      wpAny (model prog w) A (eval k env) (fun kv s₁ => wpAny (model prog w) A (eval v env) (fun vv s₂ => wpAny (model prog w) A (dictSet d kv vv) (fun _ s₃ => Q (.ref d) s₃) E s₂) E s₁) E { s with heap := h' }) :
    wpAny (model prog w) A (eval (.Dict [some k] [v] pos) env) Q E s := by
  refine wpAny_Dict_any rfl rfl (by simp) (by simp) ?_
  refine pairTrees_cons_walk ?_
  refine wpAny_mono (h s.heap.objs.size _ _ (F.push _) (News.push F N _) (fun p hp => Heap.lt_size (N p hp).1) (F.notModules (modules_low hbig)) fun base => DictO.empty) (fun kv s₁ h₁ => wpAny_mono h₁ (fun vv s₂ h₂ => pairTrees_nil_walk ?_) fun _ _ e => e) fun _ _ e => e
  unfold storeAll
  rw [List.forIn_cons]
  refine wpAny_bind (wpAny_bind (wpAny_mono h₂ (fun _ s₃ h₃ => wpAny_pure ?_) fun _ _ e => e))
  dsimp only
  rw [List.forIn_nil]
  exact wpAny_pure h₃
end

section
variable {prog : Program} {w : World} {A : Around} {E : Value → Shared → Prop} {s : Shared} {env : Env} {h₀ : Heap} {body : List Stmt} {Q : Flow → Shared → Prop} {x : Str} {px : Pos}

theorem letGo_name {it v : Value} {Qu : Unit → Shared → Prop} (h : Qu () s) : wpAny (model prog w) A (letOwnedTupleGo (.Name x px) it v) Qu E s := wpAny_pure h

/-- for X in range(a, b): the ints one after the other -/
theorem range_loop {r : Addr} {a b : Int} {t₀ u₀ v₀ : Tok} {n : Nat} {m : Str → Option Value} {news : List (Addr × Obj)}
    (hh : A.handled = none) (hx : env.kindOf x = some .local) (hpl : (env.scope.kind == .class || (env.scope.kind == .module && env.locals != env.globals)) = false)
    (hr : IsRange s.heap r a b 1 t₀ u₀ v₀) (hsmall : Builtin.Range.small a b 1 = true) (hn : Builtin.Range.rangeSize a b 1 = (n : Int)) (F : Fr h₀ env.locals s.heap m) (N : News h₀ env.locals s.heap news)
    (J : Nat → (Str → Option Value) → List (Addr × Obj) → Prop) (h0 : J 0 m news)
    (step : ∀ I, (∀ p ∈ news, p.1 < I) → ∀ i t m₁ news₁ h₁ tk₁ oI, i < n → J i m₁ news₁ → (∀ p ∈ news₁, p.1 ≠ I) → Fr h₀ env.locals h₁ (fun y => if y = x then some (.int (a + i) t) else m₁ y) → News h₀ env.locals h₁ ((I, oI) :: news₁) →
      wpAny (model prog w) A (execs body env) (PostI h₀ env.locals I oI (J (i + 1)) { s with heap := h₁, toks := tk₁ } Q) E { s with heap := h₁, toks := tk₁ })
    (done : ∀ h' tk m' news', Fr h₀ env.locals h' m' → News h₀ env.locals h' news' → J n m' news' → Q .next { s with heap := h', toks := tk }) :
    wpAny (model prog w) A (pyIter (.ref r)) (fun it s₂ => TurnsAt prog w A h₀ env (.Name x px) body Q E it s₂) E s := by
  refine wpAny_pyIter_range hr hsmall ?_
  rw [hn]
  have W := Walks.range (prog := prog) (w := w) hh s.heap.objs.size a 1 n
  have hlN : ∀ p ∈ news, p.1 < s.heap.objs.size := fun p hp => Heap.lt_size (N p hp).1
  refine turnsAt_of [] (KTurns.ofWalks (target := .Name x px) W fun i v s Q E st q => letGo_name q) (by simp) (fun b hb => .inl (by simpa using hb)) (next_is_new F) (Nat.ne_of_lt F.ns.lt) (fun p hp => Nat.ne_of_lt (hlN p hp))
    (by show IsRangeIter _ _ _ _ _; simpa using Heap.get?_push_size _ rfl) (fun i h st => ⟨_, st⟩) (F.push _) (fun p hp => ⟨Heap.get?_push_of_some _ (N p hp).1, (N p hp).2⟩) J h0 (fun _ _ _ _ p hp => by cases hp) ?_ done
  rintro i v m₁ news₁ h₁ tk₁ oI hin ⟨t, rfl⟩ hJ hoff F₁ N₁
  refine wpAny_assign_Name (wpAny_storeName_local hx F₁.ns (fun h₂ hn₂ hs₂ => ?_) hpl)
  have e : a + (i : Int) * 1 = a + i := by omega
  rw [e] at hn₂
  exact step _ hlN i t m₁ news₁ h₂ _ oI hin hJ hoff (F₁.set hn₂ hs₂) (N₁.set hs₂)

/-- for X in D.values() -/
theorem vals_loop {d vw : Addr} {od : Obj} {f : List (Int × Int)} {m : Str → Option Value} {news base : List (Addr × Obj)}
    (hh : A.handled = none) (hx : env.kindOf x = some .local) (hpl : (env.scope.kind == .class || (env.scope.kind == .module && env.locals != env.globals)) = false)
    (F : Fr h₀ env.locals s.heap m) (N : News h₀ env.locals s.heap news) (hvw : s.heap.IsValuesView vw d) (hm : (d, od) ∈ news) (D : DictO prog w base od f)
    (J : Nat → (Str → Option Value) → List (Addr × Obj) → Prop) (h0 : J 0 m news) (hkeep : ∀ i m n, J i m n → (d, od) ∈ n)
    (step : ∀ I, (∀ p ∈ news, p.1 < I) → ∀ i n c t m₁ news₁ h₁ tk₁ oI, f[i]? = some (n, c) → J i m₁ news₁ → (∀ p ∈ news₁, p.1 ≠ I) → Fr h₀ env.locals h₁ (fun y => if y = x then some (.int c t) else m₁ y) → News h₀ env.locals h₁ ((I, oI) :: news₁) →
      wpAny (model prog w) A (execs body env) (PostI h₀ env.locals I oI (J (i + 1)) { s with heap := h₁, toks := tk₁ } Q) E { s with heap := h₁, toks := tk₁ })
    (done : ∀ h' tk m' news', Fr h₀ env.locals h' m' → News h₀ env.locals h' news' → J f.length m' news' → Q .next { s with heap := h', toks := tk }) :
    wpAny (model prog w) A (pyIter (.ref vw)) (fun it s₂ => TurnsAt prog w A h₀ env (.Name x px) body Q E it s₂) E s := by
  obtain ⟨es, ep, xs, X⟩ := D
  obtain ⟨hd1, hd2, hd3⟩ := N _ hm
  have hlt := Heap.lt_size hd1
  refine valsIter hvw (X.raw hd1) ?_
  have hz : es.size = f.length := X.size
  have hlN : ∀ p ∈ news, p.1 < s.heap.objs.size := fun p hp => Heap.lt_size (N p hp).1
  refine turnsAt_of [(d, od)] (KTurns.ofWalks (target := .Name x px) (valsWalk hh s.heap.objs.size d (Nat.ne_of_lt hlt) es ep) fun i v s Q E st q => letGo_name q) (by simp) (fun b hb => ?_) (next_is_new F) (Nat.ne_of_lt F.ns.lt) (fun p hp => Nat.ne_of_lt (hlN p hp))
    ⟨⟨_, Heap.get?_push_size _ rfl, rfl, rfl⟩, (X.raw hd1).at fun o e => Heap.get?_push_of_some _ e⟩
    (fun i h st => let ⟨⟨o, ho, _⟩, _⟩ := st; ⟨o, ho⟩) (F.push _) (fun p hp => ⟨Heap.get?_push_of_some _ (N p hp).1, (N p hp).2⟩) J h0 (fun i m n hJ p hp => by rw [List.mem_singleton.mp hp]; exact hkeep i m n hJ) ?_ (fun h' tk m' news' F' N' hJ => done h' tk m' news' F' N' (hz ▸ hJ))
  · have hb' : b = s.heap.objs.size ∨ b = d := by simpa using hb
    rcases hb' with e | e
    · exact .inl e
    · exact .inr (.inl ⟨od, by simp [e]⟩)
  · rintro i v m₁ news₁ h₁ tk₁ oI hin ⟨en, hen, rfl⟩ hJ hoff F₁ N₁
    obtain ⟨n, c, a, ok, t, hf, e1, e2, hak, hk⟩ := X.entry hen
    rw [e2]
    refine wpAny_assign_Name (wpAny_storeName_local hx F₁.ns (fun h₂ hn₂ hs₂ => ?_) hpl)
    exact step _ hlN i n c t m₁ news₁ h₂ _ oI hf hJ hoff (F₁.set hn₂ hs₂) (N₁.set hs₂)
end
end
-- part MF
section
section
variable {prog : Program} {w : World} {A : Around} {E : Value → Shared → Prop} {s : Shared} {a b n v : Int} {t u : Tok} {Q : Value → Shared → Prop}
theorem rshV (hn : 0 ≤ n) (hv : a.fdiv (2 ^ n.toNat) = v) (h : Q (.int v s.toks) { s with toks := s.toks + 1 }) : wpAny (model prog w) A (binaryOp .RShift (.int a t) (.int n u)) Q E s := by subst hv; exact rshift_int hn h
theorem lshV (hn : 0 ≤ n) (hn2 : n ≤ 1000000) (ha : a.natAbs < 2 ^ 64) (hv : a * 2 ^ n.toNat = v) (h : Q (.int v s.toks) { s with toks := s.toks + 1 }) : wpAny (model prog w) A (binaryOp .LShift (.int a t) (.int n u)) Q E s := by subst hv; exact lshift_int_small hn hn2 ha h
theorem xorV (hv : Builtin.bitXor a b = v) (h : Q (.int v s.toks) { s with toks := s.toks + 1 }) : wpAny (model prog w) A (binaryOp .BitXor (.int a t) (.int b u)) Q E s := by subst hv; exact xor_int h
theorem mulV (hv : a * b = v) (hm : IntMulOk a b) (h : Q (.int v s.toks) { s with toks := s.toks + 1 }) : wpAny (model prog w) A (binaryOp .Mult (.int a t) (.int b u)) Q E s := by subst hv; exact PyProof.Rows.mul_int h hm
end
/-- below an address: a ledger's tail that is not written out -/
def Low (e : Nat) (r : List (Addr × Obj)) : Prop := ∀ p ∈ r, p.1 < e
theorem Low.ne {e d : Nat} {r : List (Addr × Obj)} (h : Low e r) (he : e ≤ d) : ∀ p ∈ r, p.1 ≠ d := fun p hp => Nat.ne_of_lt (Nat.lt_of_lt_of_le (h p hp) he)

theorem ints_rep (t : Tok) : ∀ k : Nat, IntsAre (List.replicate k (Value.int 0 t)) (List.replicate k 0)
  | 0 => .nil
  | k + 1 => .cons 0 t (ints_rep t k)
theorem news_split {h₀ h : Heap} {L f : Addr} {o : Obj} {r : List (Addr × Obj)} (N : News h₀ L h ((f, o) :: r)) : ∃ fo, fo = o ∧ News h₀ L h ((f, fo) :: r) := ⟨o, rfl, N⟩
/-- the table of the codes that a def has made: none, or the one of its nested def -/
def TabOk (bx : List Addr) (r : List (Addr × Obj)) (line col : Nat) (qual : Str) (ps : Array Value) : Prop :=
  ps = #[] ∨ ∃ c' oc vs t, ps = #[rawInt line, rawInt col, .ref c'] ∧ (c', oc) ∈ r ∧ oc.data = .fields vs ∧ vs[1]? = some (.str qual t) ∧ c' ∉ bx
theorem TabOk.mono {bx : List Addr} {r r' : List (Addr × Obj)} {line col : Nat} {qual : Str} {ps : Array Value} (x : TabOk bx r line col qual ps) (h : ∀ p ∈ r, p ∈ r') : TabOk bx r' line col qual ps := by
  rcases x with x | ⟨c', oc, vs, t, e, m, d⟩
  · exact .inl x
  · exact .inr ⟨c', oc, vs, t, e, h _ m, d⟩

theorem TabOk.re {bx by' : List Addr} {r : List (Addr × Obj)} {line col : Nat} {qual : Str} {ps : Array Value} (x : TabOk bx r line col qual ps) (h : ∀ b ∈ by', b ∈ bx ∨ ∀ p ∈ r, p.1 ≠ b) : TabOk by' r line col qual ps := by
  rcases x with x | ⟨c', oc, vs, t, e, m, d, q, hn⟩
  · exact .inl x
  · refine .inr ⟨c', oc, vs, t, e, m, d, q, fun hc => ?_⟩
    rcases h c' hc with h | h
    · exact hn h
    · exact h _ m rfl
theorem TabOk.only {bx : List Addr} {r r' : List (Addr × Obj)} {line col : Nat} {qual : Str} {ps : Array Value} (x : TabOk bx r line col qual ps) (h : ∀ p ∈ r, (∃ vs, p.2.data = .fields vs) → p ∈ r') : TabOk bx r' line col qual ps := by
  rcases x with x | ⟨c', oc, vs, t, e, m, d, q⟩
  · exact .inl x
  · exact .inr ⟨c', oc, vs, t, e, h _ m ⟨vs, d⟩, d, q⟩
section
variable {M : Model} {A : Around} {E : Value → Shared → Prop} {s : Shared} {h₀ : Heap} {L a c P : Addr} {bx : List Addr} {m mg mb : Str → Option Value} {cn : Str} {cs : Scope} {ccd : Value} {cl : List (Str × Addr)} {r : List (Addr × Obj)}
  {p : Program} {loose : List Str} {mean : ExcName → Option Value} {name qual : Str} {params : Arguments} {body : List Stmt} {scope : Scope} {ps : Array Value} {pos : Pos} {firstLine : Nat} {clos : List (Str × Addr)}

theorem nest_any {Q : Value → Shared → Prop} (F : Fr h₀ L s.heap m) (N : News h₀ L s.heap ((P, tabObj ps) :: r)) (T : Top p loose mean mg mb h₀) (C : CodeHd h₀ c P) (hcd : ccd = .ref c) (hoff : ∀ q ∈ r, q.1 ≠ P)
    (tb : TabOk bx r pos.line pos.col qual ps) (hbx : ∀ b ∈ bx, ∃ o, (b, o) ∈ r) (hcl : closureFor scope (envX cn cs L a ccd cl) = pure clos)
    (h : ∀ f c' oc vs t ctv doc h' tk ps' ex, Fr h₀ L h' m →
      News h₀ L h' ((f, fnMade name qual params body scope clos doc ((mg "__name__").getD .none) c' ctv) :: (P, tabObj ps') :: (ex ++ r)) → (∀ q ∈ ex, ∀ z ∈ (P, tabObj ps) :: r, z.1 < q.1) → (c', oc) ∈ ex ++ r → oc.data = .fields vs → vs[1]? = some (.str qual t) →
      TabOk bx (ex ++ r) pos.line pos.col qual ps' → (∀ z ∈ (P, tabObj ps) :: (ex ++ r), z.1 < f) → Q (.ref f) { s with heap := h', toks := tk }) :
    wpAny M A (makeFunction name qual params (.stmts body) scope (envX cn cs L a ccd cl) [] [] [] pos firstLine) Q E s := by
  rcases tb with rfl | ⟨c', oc, vs, t, rfl, hm, hd, hv, hne⟩
  · refine nest_K F N T C hcd (.head hoff) (by trivial) rfl hcl fun f c' oc vs t ctv doc h' tk F' N' hd hv l1 l2 => ?_
    refine h f c' oc vs t ctv doc h' tk _ [(c', oc)] F' (fun q hq => N' q ?_) (fun q hq z hz => ?_) (.head _) hd hv (.inr ⟨c', oc, vs, t, rfl, .head _, hd, hv, fun e => by obtain ⟨o, ho⟩ := hbx _ e; exact Nat.lt_irrefl _ (l1 (_, o) (.tail _ ho))⟩) fun z hz => ?_
    · simp only [List.mem_cons, List.mem_append, List.not_mem_nil, or_false] at hq ⊢
      rcases hq with h | h | h | h <;> simp [h]
    · rw [List.mem_singleton.mp hq]; exact l1 z hz
    · simp only [List.mem_cons, List.mem_append, List.not_mem_nil, or_false] at hz
      rcases hz with rfl | rfl | hz
      · exact Nat.lt_trans (l1 (P, tabObj #[]) (.head _)) l2
      · exact l2
      · exact Nat.lt_trans (l1 z (.tail _ hz)) l2
  · refine nestHit_K (c' := c') F N T C hcd (.head _) ?_ ?_ hcl fun f ctv doc h' tk F' N' l1 => ?_
    · simp [TriplesOk, rawInt]
    · simp [codeAmong, rawInt]
    · exact h f c' oc vs t ctv doc h' tk _ [] F' N' (fun q hq => by cases hq) hm hd hv (.inr ⟨c', oc, vs, t, rfl, hm, hd, hv, hne⟩) l1
end
end
-- part MG
section
section
variable {prog : Program} {w : World} {A : Around} {h₀ : Heap} {L : Addr} {m : Str → Option Value} {env : Env} {ct elt : Expr} {x : Str} {scope : Scope} {cl : List (Str × Addr)} {s : Shared} {S : List (Addr × Obj) → Prop} {P : Nat → Value → Prop} {Fin : List Value → List (Addr × Obj) → Prop} {news : List (Addr × Obj)}
theorem compEnd_mono {s₁ s₂ : Shared} {I C D : Addr} {oI oC oD : Obj} {r r' : Value → List (Addr × Obj) → Prop} {y : Value} (h : LCg.CompEnd h₀ L m s₁ I oI C oC D oD S r y s₂) (k : ∀ y n, r y n → r' y n) : LCg.CompEnd h₀ L m s₁ I oI C oC D oD S r' y s₂ :=
  let ⟨h', tk, n, e, F, N, o, hS, hr⟩ := h; ⟨h', tk, n, e, F, N, o, hS, k _ _ hr⟩
/-- a comprehension with a test: a word that each turn keeps -/
theorem compT_ind {n : Nat} (J : Nat → List Value → List (Addr × Obj) → Prop)
    (turn : ∀ i ys news, i < n → J i ys news → ∀ v I oI C oC D m₂ h tk (E' : Value → Shared → Prop), P i v → LCg.NsObj oC m₂ → m₂ x = some v → Fr h₀ L h m → News h₀ L h ((I, oI) :: (C, oC) :: (D, LCg.lst ys) :: news) → LCg.Off3 I C D news → ((@Ne Nat I C) ∧ (@Ne Nat I D) ∧ (@Ne Nat C D)) →
      wpAny (model prog w) A (isTrue ct (compEnvC scope cl C env) (eval ct (compEnvC scope cl C env))) (fun ok s' => if ok = true then
        wpAny (model prog w) A (eval elt (compEnvC scope cl C env)) (LCg.CompEnd h₀ L m { s with heap := h, toks := tk } I oI C oC D (LCg.lst ys) S (fun y news' => J (i + 1) (ys ++ [y]) news')) E' s'
        else LCg.CompEnd h₀ L m { s with heap := h, toks := tk } I oI C oC D (LCg.lst ys) S (fun _ news' => J (i + 1) ys news') Value.none s') E' { s with heap := h, toks := tk })
    (fin : ∀ ys news, J n ys news → Fin ys news) (h0 : J 0 [] news) : LCt.CompRestT prog w A h₀ L m env ct elt x scope cl s S P Fin n 0 [] news := by
  have key : ∀ (j i : Nat) (ys : List Value) (news : List (Addr × Obj)), i + j = n → J i ys news → LCt.CompRestT prog w A h₀ L m env ct elt x scope cl s S P Fin j i ys news := by
    intro j
    induction j with
    | zero =>
      intro i ys news hi hy
      obtain rfl : i = n := by omega
      exact LCt.CompRestT.zero (fin ys news hy)
    | succ j ih =>
      intro i ys news hi hy
      refine LCt.CompRestT.succ ?_
      intro v I oI C oC D m₂ h tk E' hv hC hx F N off ne
      refine wpAny_mono (turn i ys news (by omega) hy v I oI C oC D m₂ h tk E' hv hC hx F N off ne) (fun b s₂ hq => ?_) fun _ _ e => e
      cases b with
      | true =>
        simp only [if_true] at hq ⊢
        exact wpAny_mono hq (fun y s₃ hr => compEnd_mono hr fun y n hj => ih (i + 1) _ _ (by omega) hj) fun _ _ e => e
      | false =>
        simp only [Bool.false_eq_true, if_false] at hq ⊢
        exact compEnd_mono hq fun y n hj => ih (i + 1) _ _ (by omega) hj
  exact key n 0 [] news (by omega) h0
/-- a comprehension without a test -/
theorem comp_ind {n : Nat} (J : Nat → List Value → List (Addr × Obj) → Prop)
    (turn : ∀ i ys news, i < n → J i ys news → ∀ v I oI C oC D m₂ h tk (E' : Value → Shared → Prop), P i v → LCg.NsObj oC m₂ → m₂ x = some v → Fr h₀ L h m → News h₀ L h ((I, oI) :: (C, oC) :: (D, LCg.lst ys) :: news) → LCg.Off3 I C D news → ((@Ne Nat I C) ∧ (@Ne Nat I D) ∧ (@Ne Nat C D)) →
      wpAny (model prog w) A (eval elt (compEnvC scope cl C env)) (LCg.CompEnd h₀ L m { s with heap := h, toks := tk } I oI C oC D (LCg.lst ys) S (fun y news' => J (i + 1) (ys ++ [y]) news')) E' { s with heap := h, toks := tk })
    (fin : ∀ ys news, J n ys news → Fin ys news) (h0 : J 0 [] news) : LCg.CompRest prog w A h₀ L m env elt x scope cl s S P Fin n 0 [] news := by
  have key : ∀ (j i : Nat) (ys : List Value) (news : List (Addr × Obj)), i + j = n → J i ys news → LCg.CompRest prog w A h₀ L m env elt x scope cl s S P Fin j i ys news := by
    intro j
    induction j with
    | zero =>
      intro i ys news hi hy
      obtain rfl : i = n := by omega
      exact LCg.CompRest.zero (fin ys news hy)
    | succ j ih =>
      intro i ys news hi hy
      refine LCg.CompRest.succ ?_
      intro v I oI C oC D m₂ h tk E' hv hC hx F N off ne
      exact wpAny_mono (turn i ys news (by omega) hy v I oI C oC D m₂ h tk E' hv hC hx F N off ne) (fun y s₃ hr => compEnd_mono hr fun y n hj => ih (i + 1) _ _ (by omega) hj) fun _ _ e => e
  exact key n 0 [] news (by omega) h0
end

/-- a ledger without a comprehension's three own objects -/
def outOf (I C D : Addr) (r : List (Addr × Obj)) : List (Addr × Obj) := r.filter fun p => p.1 != I && (p.1 != C && p.1 != D)
theorem mem_outOf {I C D : Addr} {r : List (Addr × Obj)} {p : Addr × Obj} : p ∈ outOf I C D r ↔ p ∈ r ∧ p.1 ≠ I ∧ p.1 ≠ C ∧ p.1 ≠ D := by simp [outOf]
theorem TabOk.out {h₀ h : Heap} {L I C D : Addr} {bx : List Addr} {r : List (Addr × Obj)} {line col : Nat} {qual : Str} {ps : Array Value} {oC : Obj} {m₂ : Str → Option Value} {ys : List Value} (N : News h₀ L h r) (mC : (C, oC) ∈ r) (hC : LCg.NsObj oC m₂) (mD : (D, LCg.lst ys) ∈ r)
    (x : TabOk (I :: bx) r line col qual ps) : TabOk bx (outOf I C D r) line col qual ps := by
  rcases x with x | ⟨c', oc, vs, t, e, m, d, q, hn⟩
  · exact .inl x
  · refine .inr ⟨c', oc, vs, t, e, mem_outOf.mpr ⟨m, fun e => hn (by dsimp only at e; simp [e]), fun e => ?_, fun e => ?_⟩, d, q, fun h => hn (.tail _ h)⟩
    · dsimp only at e
      subst e
      have e1 := (N _ m).1
      rw [(N _ mC).1] at e1
      have e3 : oC = oc := Option.some.inj e1
      obtain ⟨es, ep, hd, _⟩ := hC
      rw [← e3, hd] at d; cases d
    · dsimp only at e
      subst e
      have e1 := (N _ m).1
      rw [(N _ mD).1] at e1
      have e3 : LCg.lst ys = oc := Option.some.inj e1
      rw [← e3] at d; cases d
end
-- part W1
section
local macro_rules | `(tactic| k_room) => `(tactic| ((try simp only [depth_under_make, depth_under_kw, depth_in1, depth_deeper, depth_caller, recursionLimit] at *); omega))

set_option maxHeartbeats 8000000 in
set_option pp.deepTerms.threshold 8 in
theorem add_callers_K : ∀ {w : World} {A₀ A : Around} {base h₀ : Heap} {env : Env} {outer : List Env} {L : Addr} {m mg mb : Str → Option Value} {loose : List Str} {mean : ExcName → Option Value} {news nb : List (Addr × Obj)} {s : Shared} {t u : Addr} {ot ou : Obj} {f : List (Int × Int)} {n c : Int} {E : Value → Shared → Prop} {Q : Value → Shared → Prop}
    (B : Below A₀ base outer h₀) (F : Fr h₀ L s.heap m) (X : (Mine.hd.heap_39 w.params).In h₀) (N : News h₀ L s.heap news) (T : Top topProg loose mean mg mb h₀)
    (hA : A.frames = some (env :: outer)) (hf : env.frame = some L) (hk : env.scope.kind = .function) (hh : A.handled = none) (hd : A.depth + 2 < recursionLimit) (hu : A.units + 20 < cLine)
    (ht : (t, ot) ∈ news) (hs : (u, ou) ∈ news) (lt : (t == sysModules) = false) (ls : (u == sysModules) = false)
    (hnb : ∀ p ∈ nb, p ∈ news) (Dt : DictO PySem.Challenge.rw_hz0002_01.row.prog w nb ot f) (Ds : DictO PySem.Challenge.rw_hz0002_01.row.prog w nb ou [(n, c)]) (hz : f.length ≤ 1000)
    (k : ∀ d h' tk o, Fr h₀ L h' m → News h₀ L h' ((d, o) :: news) → (∀ p ∈ news, p.1 < d) → (d == sysModules) = false → DictO PySem.Challenge.rw_hz0002_01.row.prog w nb o (addF f n c) → Q (.ref d) { s with heap := h', toks := tk }),
    wpAny (model PySem.Challenge.rw_hz0002_01.row.prog w) A (call (.ref 21) [.ref t, .ref u]) Q E s := by
  k_fill
  intro w A₀ A base h₀ env outer L m mg mb loose mean news nb s t u ot ou f n c E Q B F X N T hA hf hk hh hd hu ht hs lt ls hnb Dt Ds hz k
  obtain ⟨hd', dp, fr, gs, un⟩ := A
  dsimp only at hA hh hd hu
  subst hA hh
  refine wpAny_call ?_
  refine code_def B F X N T rfl hf hk (by k_is) (by k_is) (by dsimp only [recursionLimit] at *; omega) (BindsTo.of_eq rfl) (locs rfl) ?_ rfl rfl rfl (by decide)
  intro g' L' h' FG' F' N' B' X' T'
  dsimp only
  k_fold
  clear B F X N T FG'
  k_steps
  rename Fr _ _ _ _ => F1
  rename News _ _ _ _ => N1
  rename ∀ p ∈ news, p.1 < _ => l1
  rename Obj.IsDictOf (intKind _ _) _ [] => hi1
  rename_i d1 _ o1 lo1 _ _ _ _
  have D1 : DictO PySem.Challenge.rw_hz0002_01.row.prog w nb o1 [] := DictO.ofNil hi1
  have nd : (f.map (·.1)).Nodup := Dt.nodup
  with_unfolding_all refine' For_turns F1 ?_
  refine MethodCall_ ?_
  refine ld F1 (v := .ref t) (by rfl) ?_
  refine tab_method PySem.F.slot_dict_items PySem.F.type_dict_items N1 (.tail _ ht) (Dt.mono fun p hp => .tail _ (hnb p hp)) ?_
  refine callWith_method0 ?_
  refine tab_items F1 N1 (.tail _ ht) lt (Dt.mono fun p hp => .tail _ (hnb p hp)) fun h2 hv F2 N2 => ?_
  refine items_loop rfl F2 N2 hv (.tail _ ht) Dt (fun i m n => (∃ o', n = (d1, o') :: news ∧ DictO PySem.Challenge.rw_hz0002_01.row.prog w nb o' (f.take i)) ∧ m (Str.ofString "new_callers") = some (.ref d1) ∧ m (Str.ofString "source") = some (.ref u))
    ⟨⟨o1, rfl, D1⟩, by rfl, by rfl⟩ (by rintro i m n ⟨⟨o', rfl, _⟩, _⟩; exact .tail _ ht) ?_ ?_
  · rintro I hI i n' c' a ok tk T m₁ news₁ h₁ tk₁ oI hf' hak hkk ⟨⟨o', rfl, D'⟩, hm1, hm2⟩ hoff hT F3 N3
    replace F3 : Fr g' L' h₁ _ := known2 F3 hm1 hm2
    replace N3 : News g' L' h₁ ((I, oI) :: (d1, o') :: news) := N3
    k_steps
    rename Fr _ _ _ _ => F4
    rename News _ _ _ _ => N4
    have N5 : News g' L' _ ((d1, o') :: (I, oI) :: news) := fun p hp => N4 p (by simp only [List.mem_cons] at hp ⊢; rcases hp with h | h | h <;> simp [h])
    have hne : ∀ p ∈ (I, oI) :: news, p.1 ≠ d1 := by
      intro p hp
      rcases List.mem_cons.mp hp with rfl | hp
      · exact Nat.ne_of_gt (hI _ (.head _))
      · exact Nat.ne_of_lt (l1 p hp)
    refine tab_set (n := n') (by dsimp only [Around.deeper]; omega) F4 N5 hne (fun p hp => .tail _ (hnb p hp)) D' hak hkk (by rw [List.length_take]; omega) fun h5 o5 F6 N6 D6 => ?_
    k_steps
    refine PostI.next ?_
    refine EndI.intro F6 N6 ((d1, o5) :: news) (.tail _ (.head _)) (fun p hp => ?_) (fun p hp => ?_) ⟨⟨o5, rfl, putF_take hf' nd ▸ D6⟩, by rfl, by rfl⟩
    · rcases List.mem_cons.mp hp with rfl | hp
      · exact .head _
      · exact .tail _ (.tail _ hp)
    · rcases List.mem_cons.mp hp with rfl | hp
      · exact Nat.ne_of_lt (hI (d1, o1) (.head _))
      · exact Nat.ne_of_lt (hI _ (.tail _ hp))
  · rintro h' tk m' news' F3 N3 ⟨⟨o', rfl, D'⟩, hm1, hm2⟩
    replace F3 : Fr g' L' h' _ := known2 F3 hm1 hm2
    replace N3 : News g' L' h' ((d1, o') :: news) := N3
    rw [List.take_length] at D'
    clear hm1 hm2 hv F2 N2 F1 N1
    k_steps
    with_unfolding_all refine' For_turns F3 ?_
    refine MethodCall_ ?_
    refine ld F3 (v := .ref u) (by rfl) ?_
    refine tab_method PySem.F.slot_dict_items PySem.F.type_dict_items N3 (.tail _ hs) (Ds.mono fun p hp => .tail _ (hnb p hp)) ?_
    refine callWith_method0 ?_
    refine tab_items F3 N3 (.tail _ hs) ls (Ds.mono fun p hp => .tail _ (hnb p hp)) fun h2 hv F2 N2 => ?_
    refine items_loop rfl F2 N2 hv (.tail _ hs) Ds (fun i m n_ => (∃ o', n_ = (d1, o') :: news ∧ DictO PySem.Challenge.rw_hz0002_01.row.prog w nb o' (if i = 0 then f else addF f n c)) ∧ m (Str.ofString "new_callers") = some (.ref d1))
      ⟨⟨o', rfl, D'⟩, by rfl⟩ (by rintro i m n ⟨⟨o', rfl, _⟩, _⟩; exact .tail _ hs) ?_ ?_
    · rintro I hI i n' c' a ok tk T m₁ news₁ h₁ tk₁ oI hf' hak hkk ⟨⟨o', rfl, D'⟩, hm1⟩ hoff hT F3 N3
      have hi : i = 0 := by
        have := (List.getElem?_eq_some_iff.mp hf').1
        simpa using this
      subst hi
      simp only [List.getElem?_cons_zero, Option.some.injEq, Prod.mk.injEq] at hf'
      obtain ⟨rfl, rfl⟩ := hf'
      rw [if_pos rfl] at D'
      replace F3 : Fr g' L' h₁ _ := known F3 hm1
      replace N3 : News g' L' h₁ ((I, oI) :: (d1, o') :: news) := N3
      k_steps
      rename Fr _ _ _ _ => F4
      rename News _ _ _ _ => N4
      have hne : ∀ p ∈ (I, oI) :: news, p.1 ≠ d1 := by
        intro p hp
        rcases List.mem_cons.mp hp with rfl | hp
        · exact Nat.ne_of_gt (hI _ (.head _))
        · exact Nat.ne_of_lt (l1 p hp)
      have hu1 : un + 3 + 1 < cLine := by omega
      have hId : d1 < I := hI (d1, _) (.head _)
      cases hl : f.lookup n with
      | none =>
        refine tab_in (n := n) (b := false) (by rw [hl]; rfl) hu1 N4 (.tail _ (.head _)) lo1 (D'.mono fun p hp => .tail _ (.tail _ (hnb p hp))) (.tail _ (.tail _ (hnb _ hak))) hkk ?_
        k_steps
        rename Fr _ _ _ _ => F5
        rename News _ _ _ _ => N5
        have N6 : News g' L' _ ((d1, o') :: (I, oI) :: news) := fun p hp => N5 p (by simp only [List.mem_cons] at hp ⊢; rcases hp with h | h | h <;> simp [h])
        refine tab_set (n := n) hu1 F5 N6 hne (fun p hp => .tail _ (hnb p hp)) D' hak hkk (by omega) fun h5 o5 F7 N7 D7 => ?_
        k_steps
        refine PostI.next ?_
        refine EndI.intro F7 N7 ((d1, o5) :: news) (.tail _ (.head _)) (fun p hp => ?_) (fun p hp => ?_) ⟨⟨o5, rfl, ?_⟩, by rfl⟩
        · rcases List.mem_cons.mp hp with rfl | hp
          · exact .head _
          · exact .tail _ (.tail _ hp)
        · rcases List.mem_cons.mp hp with rfl | hp
          · exact Nat.ne_of_lt hId
          · exact Nat.ne_of_lt (hI _ (.tail _ hp))
        · rw [if_neg (by omega), addF, hl]; simpa using D7
      | some c0 =>
        refine tab_in (n := n) (b := true) (by rw [hl]; rfl) hu1 N4 (.tail _ (.head _)) lo1 (D'.mono fun p hp => .tail _ (.tail _ (hnb p hp))) (.tail _ (.tail _ (hnb _ hak))) hkk ?_
        k_steps
        rename Fr _ _ _ _ => F5
        rename News _ _ _ _ => N5
        refine tab_getItem (n := n) hu1 N5 (.tail _ (.head _)) (D'.mono fun p hp => .tail _ (.tail _ (hnb p hp))) (.tail _ (.tail _ (hnb _ hak))) hkk hl fun t0 => ?_
        k_steps
        rename Fr _ _ _ _ => F6
        rename News _ _ _ _ => N6
        have N7 : News g' L' _ ((d1, o') :: (I, oI) :: news) := fun p hp => N6 p (by simp only [List.mem_cons] at hp ⊢; rcases hp with h | h | h <;> simp [h])
        refine tab_set (n := n) hu1 F6 N7 hne (fun p hp => .tail _ (hnb p hp)) D' hak hkk (by omega) fun h5 o5 F8 N8 D8 => ?_
        k_steps
        refine PostI.next ?_
        refine EndI.intro F8 N8 ((d1, o5) :: news) (.tail _ (.head _)) (fun p hp => ?_) (fun p hp => ?_) ⟨⟨o5, rfl, ?_⟩, by rfl⟩
        · rcases List.mem_cons.mp hp with rfl | hp
          · exact .head _
          · exact .tail _ (.tail _ hp)
        · rcases List.mem_cons.mp hp with rfl | hp
          · exact Nat.ne_of_lt hId
          · exact Nat.ne_of_lt (hI _ (.tail _ hp))
        · rw [if_neg (by omega), addF, hl]; exact D8
    · rintro h' tk m' news' F3 N3 ⟨⟨o', rfl, D'⟩, hm1⟩
      rw [if_neg (by simp)] at D'
      replace F3 : Fr g' L' h' _ := known F3 hm1
      replace N3 : News g' L' h' ((d1, o') :: news) := N3
      clear F2 N2 hv
      k_steps
      dsimp only
      k_unfold
      rename Fr g' L' _ _ => F4
      rename News g' L' _ _ => N4
      exact leaveK_ F4 N4 fun kF kN => k d1 _ _ o' kF kN l1 lo1 D'
end
-- part W2
section
/- the library's steps, but no step into a loop or into a call of the text's own -/
local macro_rules | `(tactic| walk_at "mine") => `(tactic| repeat' ((fail_if_success (with_reducible show wpAny _ _ (exec (Stmt.For _ _ _ _ _) _) _ _ _)); (fail_if_success (with_reducible show wpAny _ _ (PySem.call (Value.ref _) _ _) _ _ _)); first | (k_unfold; (try dsimp only)) | (k_end; wrow_close) | walk1 | (dsimp only; walk1) | (leave1; walk_say "STEP leave1"; try dsimp only)))

theorem take_sum {f : List (Int × Int)} {i : Nat} {n c : Int} (h : f[i]? = some (n, c)) : ((f.take (i + 1)).map (·.2)).sum = ((f.take i).map (·.2)).sum + c := by
  rw [List.take_add_one, h]; simp

set_option maxHeartbeats 8000000 in
theorem count_calls_K : ∀ {w : World} {A₀ A : Around} {base h₀ : Heap} {env : Env} {outer : List Env} {L : Addr} {m mg mb : Str → Option Value} {loose : List Str} {mean : ExcName → Option Value} {news : List (Addr × Obj)} {s : Shared} {t : Addr} {ot : Obj} {f : List (Int × Int)} {E : Value → Shared → Prop} {Q : Value → Shared → Prop}
    (B : Below A₀ base outer h₀) (F : Fr h₀ L s.heap m) (X : (Mine.hd.heap_39 w.params).In h₀) (N : News h₀ L s.heap news) (T : Top topProg loose mean mg mb h₀)
    (hA : A.frames = some (env :: outer)) (hf : env.frame = some L) (hk : env.scope.kind = .function) (hh : A.handled = none) (hd : A.depth + 2 < recursionLimit) (hu : A.units + 20 < cLine)
    (ht : (t, ot) ∈ news) (lt : (t == sysModules) = false) (Dt : DictO PySem.Challenge.rw_hz0002_01.row.prog w news ot f)
    (k : ∀ h' tk t', Fr h₀ L h' m → News h₀ L h' news → Q (.int (f.map (·.2)).sum t') { s with heap := h', toks := tk }),
    wpAny (model PySem.Challenge.rw_hz0002_01.row.prog w) A (call (.ref 28) [.ref t]) Q E s := by
  k_fill
  intro w A₀ A base h₀ env outer L m mg mb loose mean news s t ot f E Q B F X N T hA hf hk hh hd hu ht lt Dt k
  obtain ⟨hd', dp, fr, gs, un⟩ := A
  dsimp only at hA hh hd hu
  subst hA hh
  refine wpAny_call ?_
  refine code_def B F X N T rfl hf hk (by k_is) (by k_is) (by dsimp only [recursionLimit] at *; omega) (BindsTo.of_eq rfl) (locs rfl) ?_ rfl rfl rfl (by decide)
  intro g' L' h' FG' F' N' B' X' T'
  dsimp only
  k_fold
  clear B F X N T FG'
  walk_at "mine"
  rename Fr _ _ _ _ => F1
  rename News _ _ _ _ => N1
  with_unfolding_all refine' For_turns F1 ?_
  refine MethodCall_ ?_
  refine ld F1 (v := .ref t) (by rfl) ?_
  refine tab_method PySem.F.slot_dict_values PySem.F.type_dict_values N1 ht Dt ?_
  refine callWith_method0 ?_
  refine tab_values F1 N1 ht lt Dt fun h2 hv F2 N2 => ?_
  refine vals_loop rfl (by rfl) (by rfl) F2 N2 hv ht Dt (fun i m n => n = news ∧ ∃ t, m (Str.ofString "nc") = some (.int ((f.take i).map (·.2)).sum t))
    ⟨rfl, ⟨_, by rfl⟩⟩ (by rintro i m n ⟨rfl, _⟩; exact ht) ?_ ?_
  · rintro I hI i n' c' tk m₁ news₁ h₁ tk₁ oI hf' ⟨rfl, t3, hm1⟩ hoff F3 N3
    replace F3 : Fr g' L' h₁ _ := known F3 (x := Str.ofString "nc") (v := .int ((f.take i).map (·.2)).sum t3) (by rw [if_neg (by decide)]; exact hm1)
    replace N3 : News g' L' h₁ ((I, oI) :: news₁) := N3
    walk_at "mine"
    rename Fr _ _ _ _ => F4
    rename News _ _ _ _ => N4
    refine PostI.next ?_
    refine EndI.intro F4 N4 news₁ (.head _) (fun p hp => .tail _ hp) hoff ⟨rfl, ?_⟩
    rw [take_sum hf']
    exact ⟨_, by rfl⟩
  · rintro h' tk m' news' F3 N3 ⟨rfl, t3, hm1⟩
    replace F3 : Fr g' L' h' _ := known F3 hm1
    replace N3 : News g' L' h' news' := N3
    rw [List.take_length] at F3
    clear F2 N2 hv F1 N1
    walk_at "mine"
    dsimp only
    k_unfold
    rename Fr g' L' _ _ => F4
    rename News g' L' _ _ => N4
    exact leaveK_ F4 N4 fun kF kN => k _ _ _ kF kN
end
-- part W3
section
local macro_rules | `(tactic| walk_at "mine") => `(tactic| repeat' ((fail_if_success (with_reducible show PostI _ _ _ _ _ _ _ _ _)); (fail_if_success (with_reducible show wpAny _ _ (exec (Stmt.For _ _ _ _ _) _) _ _ _)); (fail_if_success (with_reducible show wpAny _ _ (eval (Expr.Dict (_ :: _) _ _) _) _ _ _)); (fail_if_success (with_reducible show wpAny _ _ (PySem.call (Value.ref _) _ _) _ _ _)); first | (k_unfold; (try dsimp only)) | (k_end; wrow_close) | walk1 | (dsimp only; walk1) | (leave1; walk_say "STEP leave1"; try dsimp only)))

def putTwo (b one : Int) (t : List (Int × Int)) (j : Nat) : List (Int × Int) :=
  if one * one + (-4 + (j : Int)) * (-4 + (j : Int)) ≤ b then addF t (one * one + (-4 + (j : Int)) * (-4 + (j : Int))) 1 else t
def rowTwo (b one : Int) (t : List (Int × Int)) (k : Nat) : List (Int × Int) := (List.range k).foldl (putTwo b one) t
def allTwo (b : Int) (k : Nat) : List (Int × Int) := (List.range k).foldl (fun t (i : Nat) => rowTwo b (-4 + (i : Int)) t 9) []
def twosT (b : Int) : List (Int × Int) := allTwo b 9
theorem rowTwo_succ (b one : Int) (t : List (Int × Int)) (k : Nat) : rowTwo b one t (k + 1) = putTwo b one (rowTwo b one t k) k := by simp [rowTwo, List.range_succ]
theorem allTwo_succ (b : Int) (k : Nat) : allTwo b (k + 1) = rowTwo b (-4 + (k : Int)) (allTwo b k) 9 := by simp [allTwo, List.range_succ]
theorem addF_length (t : List (Int × Int)) (n c : Int) : (addF t n c).length ≤ t.length + 1 := by
  unfold addF putF; split <;> simp
theorem putTwo_length (b one : Int) (t : List (Int × Int)) (j : Nat) : (putTwo b one t j).length ≤ t.length + 1 := by
  unfold putTwo; split
  · exact addF_length _ _ _
  · omega
theorem rowTwo_length (b one : Int) (t : List (Int × Int)) (k : Nat) : (rowTwo b one t k).length ≤ t.length + k := by
  induction k with
  | zero => exact Nat.le_refl _
  | succ k ih => rw [rowTwo_succ]; have := putTwo_length b one (rowTwo b one t k) k; omega
theorem allTwo_length (b : Int) (k : Nat) : (allTwo b k).length ≤ 9 * k := by
  induction k with
  | zero => exact Nat.le_refl _
  | succ k ih => rw [allTwo_succ]; have := rowTwo_length b (-4 + (k : Int)) (allTwo b k) 9; omega

set_option maxHeartbeats 8000000 in
theorem law_twos_K : ∀ {w : World} {A₀ A : Around} {base h₀ : Heap} {env : Env} {outer : List Env} {L : Addr} {m mg mb : Str → Option Value} {loose : List Str} {mean : ExcName → Option Value} {news : List (Addr × Obj)} {s : Shared} {b : Int} {tb : Tok} {E : Value → Shared → Prop} {Q : Value → Shared → Prop}
    (B : Below A₀ base outer h₀) (F : Fr h₀ L s.heap m) (X : (Mine.hd.heap_39 w.params).In h₀) (N : News h₀ L s.heap news) (T : Top topProg loose mean mg mb h₀)
    (hA : A.frames = some (env :: outer)) (hf : env.frame = some L) (hk : env.scope.kind = .function) (hh : A.handled = none) (hd : A.depth + 4 < recursionLimit) (hu : A.units + 40 < cLine)
    (hb0 : 4 ≤ b) (hb1 : b ≤ 16)
    (k : ∀ h' tk news' d o, Fr h₀ L h' m → News h₀ L h' news' → (∀ p ∈ news, p ∈ news') → (d, o) ∈ news' → (d == sysModules) = false → DictO PySem.Challenge.rw_hz0002_01.row.prog w news' o (twosT b) → Q (.ref d) { s with heap := h', toks := tk }),
    wpAny (model PySem.Challenge.rw_hz0002_01.row.prog w) A (call (.ref 77) [.int b tb]) Q E s := by
  k_fill
  intro w A₀ A base h₀ env outer L m mg mb loose mean news s b tb E Q B F X N T hA hf hk hh hd hu hb0 hb1 k
  obtain ⟨hd', dp, fr, gs, un⟩ := A
  dsimp only at hA hh hd hu
  subst hA hh
  refine wpAny_call ?_
  refine code_def B F X N T rfl hf hk (by k_is) (by k_is) (by dsimp only [recursionLimit] at *; omega) (BindsTo.of_eq rfl) (locs rfl) ?_ rfl rfl rfl (by decide)
  intro g' L' h' FG' F' N' B' X' T'
  dsimp only
  k_fold
  clear B F X N T FG'
  walk_at "mine"
  rename Fr _ _ _ _ => F1
  rename News _ _ _ _ => N1
  rename ∀ p ∈ news, p.1 < _ => l1
  rename Obj.IsDictOf (intKind _ _) _ [] => hi1
  rename_i d1 _ o1 lo1 _ _ _ _
  have D1 : DictO PySem.Challenge.rw_hz0002_01.row.prog w ((d1, o1) :: news) o1 [] := DictO.ofNil hi1
  with_unfolding_all refine' For_turns F1 ?_
  walk_at "mine"
  rename IsRange _ _ _ _ _ _ _ _ => rg1
  rename Fr _ _ _ _ => F2
  rename News _ _ _ _ => N2
  refine range_loop (n := 9) rfl (by rfl) (by rfl) rg1 (by decide) (by decide) F2 N2
    (fun i m n => ∃ d o, (d, o) ∈ n ∧ (d == sysModules) = false ∧ DictO PySem.Challenge.rw_hz0002_01.row.prog w n o (allTwo b i) ∧ (∀ p ∈ news, p ∈ n) ∧ m (Str.ofString "table") = some (.ref d) ∧ m (Str.ofString "bound") = some (.int b tb))
    ⟨d1, o1, .head _, lo1, D1, fun p hp => .tail _ hp, by rfl, by rfl⟩ ?_ ?_
  · rintro I hI i t m₁ news₁ h₁ tk₁ oI hi ⟨d, o, hdo, lo, D, hsub, hm1, hm2⟩ hoff F3 N3
    obtain ⟨v, hv⟩ : ∃ v : Int, v = -4 + (i : Int) := ⟨_, rfl⟩
    have hv0 : -4 ≤ v := by omega
    have hv1 : v ≤ 4 := by omega
    have e : (0 - 4 + (i : Int)) = v := by omega
    rw [e] at F3
    replace F3 : Fr g' L' h₁ _ := known3 F3 (x := Str.ofString "one") (v := .int v t) (y := Str.ofString "table") (u := .ref d) (z := Str.ofString "bound") (r := .int b tb) (by rw [if_pos rfl]) (by rw [if_neg (by decide)]; exact hm1) (by rw [if_neg (by decide)]; exact hm2)
    replace N3 : News g' L' h₁ ((I, oI) :: news₁) := N3
    clear F2 N2 rg1
    walk_at "mine"
    rename Fr _ _ _ _ => F4
    with_unfolding_all refine' For_turns F4 ?_
    walk_at "mine"
    rename IsRange _ _ _ _ _ _ _ _ => rg2
    rename Fr _ _ _ _ => F5
    rename News _ _ _ _ => N5
    refine range_loop (n := 9) rfl (by rfl) (by rfl) rg2 (by decide) (by decide) F5 N5
      (fun j m n => ∃ n', n = (I, oI) :: n' ∧ (∀ p ∈ n', p.1 ≠ I) ∧ (∀ p ∈ news, p ∈ n') ∧ ∃ d o, (d, o) ∈ n' ∧ (d == sysModules) = false ∧ DictO PySem.Challenge.rw_hz0002_01.row.prog w n' o (rowTwo b v (allTwo b i) j) ∧ m (Str.ofString "one") = some (.int v t) ∧ m (Str.ofString "table") = some (.ref d) ∧ m (Str.ofString "bound") = some (.int b tb))
      ⟨news₁, rfl, hoff, hsub, d, o, hdo, lo, D, by rfl, by rfl, by rfl⟩ ?_ ?_
    · rintro I2 hI2 j t2 m₂ news₂ h₂ tk₂ oI2 hj ⟨n', rfl, hoff', hsub', d', o', hdo', lo', D', hn1, hn2, hn3⟩ hoff2 F6 N6
      obtain ⟨u, hu'⟩ : ∃ u : Int, u = -4 + (j : Int) := ⟨_, rfl⟩
      have hu0 : -4 ≤ u := by omega
      have hu1 : u ≤ 4 := by omega
      have e : (0 - 4 + (j : Int)) = u := by omega
      rw [e] at F6
      replace F6 : Fr g' L' h₂ _ := known4 F6 (x := Str.ofString "other") (v := .int u t2) (y := Str.ofString "one") (u := .int v t) (z := Str.ofString "table") (r := .ref d') (t := Str.ofString "bound") (q := .int b tb)
        (by rw [if_pos rfl]) (by rw [if_neg (by decide)]; exact hn1) (by rw [if_neg (by decide)]; exact hn2) (by rw [if_neg (by decide)]; exact hn3)
      replace N6 : News g' L' h₂ ((I2, oI2) :: (I, oI) :: n') := N6
      clear F5 N5 rg2
      walk_at "mine"
      · rename Fr _ _ _ _ => F7
        rename News _ _ _ _ => N7
        refine dict_one F7 N7 T'.nolimit fun d1 h3 o1 F8 N8 l8 lo8 D8 => ?_
        have lt9 : ∀ p ∈ (d1, o1) :: (I2, oI2) :: (I, oI) :: n', p.1 < h3.objs.size := fun p hp => Heap.lt_size (N8 p hp).1
        walk_at "mine"
        rename Fr _ _ _ _ => F9
        rename News _ _ _ _ => N9
        have hcond : v * v + u * u ≤ b := by assumption
        revert F9 N9
        dsimp only
        revert lt9
        generalize h3.objs.size = a1
        intro lt9 F9 N9
        obtain ⟨ok1, N9, hkey⟩ : ∃ ok1, News g' L' _ ((a1, ok1) :: (d1, o1) :: (I2, oI2) :: (I, oI) :: n') ∧ KeyObj (v * v + u * u) ok1 := ⟨_, N9, rfl, _, _, _, _, rfl⟩
        have N10 : News g' L' _ ((d1, o1) :: (a1, ok1) :: (I2, oI2) :: (I, oI) :: n') := fun p hp => N9 p (by simp only [List.mem_cons] at hp ⊢; rcases hp with h | h | h <;> simp [h])
        have ha1 : d1 < a1 := lt9 (d1, o1) (.head _)
        have hd1I : I < d1 := l8 (I, oI) (.tail _ (.head _))
        have hd1I2 : I2 < d1 := l8 (I2, oI2) (.head _)
        have hne1 : ∀ p ∈ (a1, ok1) :: (I2, oI2) :: (I, oI) :: n', p.1 ≠ d1 := by
          intro p hp
          rcases List.mem_cons.mp hp with rfl | hp
          · exact Nat.ne_of_gt ha1
          · exact Nat.ne_of_lt (l8 p hp)
        refine tab_dictSet (n := v * v + u * u) (by dsimp only [Around.deeper]; omega) F9 N10 hne1 (base := (a1, ok1) :: n') (fun p hp => by rcases List.mem_cons.mp hp with h | h <;> simp [h]) (D8 _) (.head _) hkey fun h5 o5 F11 N11 D11 => ?_
        walk_at "mine"
        refine add_callers_K (f := rowTwo b v (allTwo b i) j) (ot := o') (ou := o5) (n := v * v + u * u) (c := 1) B' F11 X' N11 T' rfl rfl rfl rfl (by dsimp only [Around.deeper]; omega) (by dsimp only [Around.deeper]; omega)
          (.tail _ (.tail _ (.tail _ (.tail _ hdo')))) (.head _) lo' lo8 (nb := (a1, ok1) :: n') (fun p hp => by rcases List.mem_cons.mp hp with h | h <;> simp [h]) (D'.mono fun p hp => .tail _ hp) D11 ?_ fun d6 h6 tk6 o6 F12 N12 l12 lo12 D12 => ?_
        · have h1 := rowTwo_length b v (allTwo b i) j
          have h2 := allTwo_length b i
          omega
        walk_at "mine"
        rename Fr _ _ _ _ => F13
        rename News _ _ _ _ => N13
        have hd6 : ∀ p ∈ (d1, o5) :: (a1, ok1) :: (I2, oI2) :: (I, oI) :: n', p.1 < d6 := l12
        refine PostI.next ?_
        refine EndI.intro F13 N13 ((I, oI) :: (d6, o6) :: (d1, o5) :: (a1, ok1) :: n') (by simp) (fun p hp => ?_) (fun p hp => ?_) ⟨(d6, o6) :: (d1, o5) :: (a1, ok1) :: n', rfl, fun p hp => ?_, fun p hp => ?_, d6, o6, .head _, lo12, ?_, by rfl, by rfl, by rfl⟩
        · simp only [List.mem_cons] at hp ⊢; rcases hp with h | h | h | h | h <;> simp [h]
        · simp only [List.mem_cons] at hp
          rcases hp with rfl | rfl | rfl | rfl | hp
          · exact hoff2 _ (.head _)
          · exact Nat.ne_of_gt (hd6 (I2, oI2) (by simp))
          · exact Nat.ne_of_gt hd1I2
          · exact Nat.ne_of_gt (lt9 (I2, oI2) (by simp))
          · exact hoff2 _ (.tail _ hp)
        · simp only [List.mem_cons] at hp
          rcases hp with rfl | rfl | rfl | hp
          · exact Nat.ne_of_gt (hd6 (I, oI) (by simp))
          · exact Nat.ne_of_gt hd1I
          · exact Nat.ne_of_gt (lt9 (I, oI) (by simp))
          · exact hoff' _ hp
        · exact .tail _ (.tail _ (.tail _ (hsub' p hp)))
        · rw [rowTwo_succ, putTwo, ← hu', if_pos hcond]
          exact D12.mono fun p hp => .tail _ (.tail _ hp)
      · rename Fr _ _ _ _ => F7
        rename News _ _ _ _ => N7
        have hcond : ¬ v * v + u * u ≤ b := by assumption
        refine PostI.next ?_
        refine EndI.intro F7 N7 ((I, oI) :: n') (by simp) (fun p hp => .tail _ hp) hoff2 ⟨n', rfl, hoff', hsub', d', o', hdo', lo', ?_, by rfl, by rfl, by rfl⟩
        rw [rowTwo_succ, putTwo, ← hu', if_neg hcond]
        exact D'
    · rintro h6 tk6 m6 news6 F6 N6 ⟨n', rfl, hoff', hsub', d', o', hdo', lo', D', hn1, hn2, hn3⟩
      replace F6 : Fr g' L' h6 _ := known2 F6 hn2 hn3
      replace N6 : News g' L' h6 ((I, oI) :: n') := N6
      walk_at "mine"
      rename Fr _ _ _ _ => F7
      rename News _ _ _ _ => N7
      refine PostI.next ?_
      refine EndI.intro F7 N7 n' (by simp) (fun p hp => .tail _ hp) hoff' ⟨d', o', hdo', lo', ?_, hsub', by rfl, by rfl⟩
      rw [allTwo_succ, ← hv]
      exact D'
  · rintro h' tk m' news' F3 N3 ⟨d, o, hdo, lo, D, hsub, hm1, hm2⟩
    replace F3 : Fr g' L' h' _ := known F3 hm1
    replace N3 : News g' L' h' news' := N3
    walk_at "mine"
    dsimp only
    k_unfold
    rename Fr g' L' _ _ => F4
    rename News g' L' _ _ => N4
    exact leaveK_ F4 N4 fun kF kN => k _ _ news' d o kF kN hsub hdo lo D
end
-- part W4
section
local macro_rules | `(tactic| walk_at "mine") => `(tactic| repeat' ((fail_if_success (with_reducible show PostI _ _ _ _ _ _ _ _ _)); (fail_if_success (with_reducible show wpAny _ _ (exec (Stmt.For _ _ _ _ _) _) _ _ _)); (fail_if_success (with_reducible show wpAny _ _ (eval (Expr.Dict (_ :: _) _ _) _) _ _ _)); (fail_if_success (with_reducible show wpAny _ _ (subscriptTail _ _ (Value.ref _) _) _ _ _)); (fail_if_success (with_reducible show wpAny _ _ (PySem.call (Value.ref _) _ _) _ _ _)); first | (k_unfold; (try dsimp only)) | (k_end; wrow_close) | walk1 | (dsimp only; walk1) | (leave1; walk_say "STEP leave1"; try dsimp only)))

theorem KeyObj.isTup {h : Heap} {a : Addr} {n : Int} {o : Obj} (k : KeyObj n o) (ho : h.get? a = some o) : ∃ t u v, IsTup h a #[.str wAt t, .int n u, .str wSum v] :=
  let ⟨hc, t, u, v, ep, hd⟩ := k; ⟨t, u, v, o, ho, hc, ep, hd⟩

def putFour (b : Int) (p : Int × Int) (t : List (Int × Int)) (q : Int × Int) : List (Int × Int) := if p.1 + q.1 ≤ b then addF t (p.1 + q.1) (p.2 * q.2) else t
def rowFour (b : Int) (p : Int × Int) (t l : List (Int × Int)) : List (Int × Int) := l.foldl (putFour b p) t
def allFour (b : Int) (f l : List (Int × Int)) : List (Int × Int) := l.foldl (fun t p => rowFour b p t f) []
def foursT (b : Int) (f : List (Int × Int)) : List (Int × Int) := allFour b f f
theorem rowFour_succ {b : Int} {p : Int × Int} {t f : List (Int × Int)} {i : Nat} {q : Int × Int} (h : f[i]? = some q) : rowFour b p t (f.take (i + 1)) = putFour b p (rowFour b p t (f.take i)) q := by
  rw [List.take_add_one, h]; simp [rowFour]
theorem allFour_succ {b : Int} {f : List (Int × Int)} {i : Nat} {p : Int × Int} (h : f[i]? = some p) : allFour b f (f.take (i + 1)) = rowFour b p (allFour b f (f.take i)) f := by
  rw [List.take_add_one, h]; simp [allFour]
theorem putFour_length (b : Int) (p q : Int × Int) (t : List (Int × Int)) : (putFour b p t q).length ≤ t.length + 1 := by
  unfold putFour; split
  · exact addF_length _ _ _
  · omega
theorem rowFour_length (b : Int) (p : Int × Int) (l : List (Int × Int)) : ∀ t, (rowFour b p t l).length ≤ t.length + l.length := by
  induction l with
  | nil => intro t; exact Nat.le_refl _
  | cons q r ih =>
    intro t
    have h1 := ih (putFour b p t q)
    have h2 := putFour_length b p q t
    simp only [rowFour, List.foldl_cons, List.length_cons] at *
    omega
theorem allFour_length (b : Int) (f l : List (Int × Int)) : (allFour b f l).length ≤ l.length * f.length := by
  have : ∀ t, (l.foldl (fun t p => rowFour b p t f) t).length ≤ t.length + l.length * f.length := by
    induction l with
    | nil => intro t; simp
    | cons p r ih =>
      intro t
      have h1 := ih (rowFour b p t f)
      have h2 := rowFour_length b p f t
      simp only [List.foldl_cons, List.length_cons, Nat.add_mul, Nat.one_mul] at *
      omega
  have := this []
  simpa [allFour] using this

set_option maxHeartbeats 8000000 in
theorem law_fours_K : ∀ {w : World} {A₀ A : Around} {base h₀ : Heap} {env : Env} {outer : List Env} {L : Addr} {m mg mb : Str → Option Value} {loose : List Str} {mean : ExcName → Option Value} {news : List (Addr × Obj)} {s : Shared} {t : Addr} {ot : Obj} {f : List (Int × Int)} {b : Int} {tb : Tok} {E : Value → Shared → Prop} {Q : Value → Shared → Prop}
    (B : Below A₀ base outer h₀) (F : Fr h₀ L s.heap m) (X : (Mine.hd.heap_39 w.params).In h₀) (N : News h₀ L s.heap news) (T : Top topProg loose mean mg mb h₀)
    (hA : A.frames = some (env :: outer)) (hf : env.frame = some L) (hk : env.scope.kind = .function) (hh : A.handled = none) (hd : A.depth + 4 < recursionLimit) (hu : A.units + 40 < cLine)
    (hb0 : 4 ≤ b) (hb1 : b ≤ 16) (ht : (t, ot) ∈ news) (lt : (t == sysModules) = false) (Dt : DictO PySem.Challenge.rw_hz0002_01.row.prog w news ot f) (hz : f.length ≤ 20) (hfb : ∀ p ∈ f, 0 ≤ p.1 ∧ p.1 ≤ 16 ∧ 0 ≤ p.2 ∧ p.2 ≤ 100)
    (k : ∀ h' tk news' d o, Fr h₀ L h' m → News h₀ L h' news' → (∀ p ∈ news, p ∈ news') → (d, o) ∈ news' → (d == sysModules) = false → DictO PySem.Challenge.rw_hz0002_01.row.prog w news' o (foursT b f) → Q (.ref d) { s with heap := h', toks := tk }),
    wpAny (model PySem.Challenge.rw_hz0002_01.row.prog w) A (call (.ref 84) [.ref t, .int b tb]) Q E s := by
  k_fill
  intro w A₀ A base h₀ env outer L m mg mb loose mean news s t ot f b tb E Q B F X N T hA hf hk hh hd hu hb0 hb1 ht lt Dt hz hfb k
  obtain ⟨hd', dp, fr, gs, un⟩ := A
  dsimp only at hA hh hd hu
  subst hA hh
  refine wpAny_call ?_
  refine code_def B F X N T rfl hf hk (by k_is) (by k_is) (by dsimp only [recursionLimit] at *; omega) (BindsTo.of_eq rfl) (locs rfl) ?_ rfl rfl rfl (by decide)
  intro g' L' h' FG' F' N' B' X' T'
  dsimp only
  k_fold
  clear B F X N T FG'
  walk_at "mine"
  rename Fr _ _ _ _ => F1
  rename News _ _ _ _ => N1
  rename ∀ p ∈ news, p.1 < _ => l1
  rename Obj.IsDictOf (intKind _ _) _ [] => hi1
  rename_i d1 _ o1 lo1 _ _ _ _
  have D1 : DictO PySem.Challenge.rw_hz0002_01.row.prog w ((d1, o1) :: news) o1 [] := DictO.ofNil hi1
  with_unfolding_all refine' For_turns F1 ?_
  refine MethodCall_ ?_
  refine ld F1 (v := .ref t) (by rfl) ?_
  refine tab_method PySem.F.slot_dict_items PySem.F.type_dict_items N1 (.tail _ ht) (Dt.mono fun p hp => .tail _ hp) ?_
  refine callWith_method0 ?_
  refine tab_items F1 N1 (.tail _ ht) lt (Dt.mono fun p hp => .tail _ hp) fun h2 hv F2 N2 => ?_
  refine items_loop rfl F2 N2 hv (.tail _ ht) Dt (fun i m n => (∀ p ∈ news, p ∈ n) ∧ ∃ d o, (d, o) ∈ n ∧ (d == sysModules) = false ∧ DictO PySem.Challenge.rw_hz0002_01.row.prog w n o (allFour b f (f.take i)) ∧ m (Str.ofString "table") = some (.ref d) ∧ m (Str.ofString "bound") = some (.int b tb) ∧ m (Str.ofString "twos") = some (.ref t))
    ⟨fun p hp => .tail _ hp, d1, o1, .head _, lo1, D1, by rfl, by rfl, by rfl⟩ (by rintro i m n ⟨hsub, _⟩; exact hsub _ ht) ?_ ?_
  · rintro I hI i wn wc a ok kt1 T m₁ news₁ h₁ tk₁ oI hf' hak hkk ⟨hsub, d, o, hdo, lo, D, hm1, hm2, hm3⟩ hoff hT F3 N3
    replace F3 : Fr g' L' h₁ _ := known3 F3 hm1 hm2 hm3
    replace N3 : News g' L' h₁ ((I, oI) :: news₁) := N3
    clear F2 N2 hv
    walk_at "mine"
    rename Fr _ _ _ _ => F4
    rename News _ _ _ _ => N4
    with_unfolding_all refine' For_turns F4 ?_
    refine MethodCall_ ?_
    refine ld F4 (v := .ref t) (by rfl) ?_
    refine tab_method PySem.F.slot_dict_items PySem.F.type_dict_items N4 (.tail _ (hsub _ ht)) (Dt.mono fun p hp => .tail _ (hsub _ hp)) ?_
    refine callWith_method0 ?_
    refine tab_items F4 N4 (.tail _ (hsub _ ht)) lt (Dt.mono fun p hp => .tail _ (hsub _ hp)) fun h5 hv5 F5 N5 => ?_
    refine items_loop rfl F5 N5 hv5 (.tail _ (hsub _ ht)) Dt (fun j m n => ∃ n', n = (I, oI) :: n' ∧ (∀ p ∈ n', p.1 ≠ I) ∧ (∀ p ∈ news, p ∈ n') ∧ ∃ d o, (d, o) ∈ n' ∧ (d == sysModules) = false ∧ DictO PySem.Challenge.rw_hz0002_01.row.prog w n' o (rowFour b (wn, wc) (allFour b f (f.take i)) (f.take j)) ∧
        (m (Str.ofString "table") = some (.ref d) ∧ m (Str.ofString "bound") = some (.int b tb) ∧ m (Str.ofString "twos") = some (.ref t)) ∧ m (Str.ofString "word") = some (.ref a) ∧ m (Str.ofString "often") = some (.int wc kt1))
      ⟨news₁, rfl, hoff, hsub, d, o, hdo, lo, D, ⟨by rfl, by rfl, by rfl⟩, by rfl, by rfl⟩ (by rintro i m n ⟨n', rfl, _, hs', _⟩; exact .tail _ (hs' _ ht)) ?_ ?_
    · rintro I2 hI2 j ln lc a2 ok2 kt2 T2 m₂ news₂ h₂ tk₂' oI2 hf2 hak2 hkk2 ⟨n', rfl, hoff', hsub', d', o', hdo', lo', D', ⟨hn1, hn2, hn3⟩, hn4, hn5⟩ hoff2 hT2 F6 N6
      replace F6 : Fr g' L' h₂ _ := known2 (known3 F6 hn1 hn2 hn3) (x := Str.ofString "word") (v := .ref a) (y := Str.ofString "often") (u := .int wc kt1) (by rw [if_neg (by decide), if_neg (by decide), if_neg (by decide)]; exact hn4) (by rw [if_neg (by decide), if_neg (by decide), if_neg (by decide)]; exact hn5)
      replace N6 : News g' L' h₂ ((I2, oI2) :: (I, oI) :: n') := N6
      clear F5 N5 hv5
      obtain ⟨q1, q2, q3, q4⟩ := hfb _ (List.mem_of_getElem? hf')
      obtain ⟨r1, r2, r3, r4⟩ := hfb _ (List.mem_of_getElem? hf2)
      dsimp only at q1 q2 q3 q4 r1 r2 r3 r4
      walk_at "mine"
      rename Fr _ _ _ _ => F7
      rename News _ _ _ _ => N7
      obtain ⟨_, _, _, hTa⟩ := hkk.isTup (N7.get (.tail _ (.tail _ (hsub' _ hak))))
      refine item_tupleT hTa (j := 1) (by decide) (by decide) (by rfl) (by rfl) ?_
      walk_at "mine"
      rename Fr _ _ _ _ => F8
      rename News _ _ _ _ => N8
      obtain ⟨_, _, _, hTb⟩ := hkk2.isTup (N8.get (.tail _ (.tail _ (hsub' _ hak2))))
      refine item_tupleT hTb (j := 1) (by decide) (by decide) (by rfl) (by rfl) ?_
      walk_at "mine"
      · rename Fr _ _ _ _ => F9
        rename News _ _ _ _ => N9
        have hcond : wn + ln ≤ b := by assumption
        refine dict_one F9 N9 T'.nolimit fun d1 h3 o1 F8 N8 l8 lo8 D8 => ?_
        have lt9 : ∀ p ∈ (d1, o1) :: (I2, oI2) :: (I, oI) :: n', p.1 < h3.objs.size := fun p hp => Heap.lt_size (N8 p hp).1
        obtain ⟨_, _, _, hTa⟩ := hkk.isTup (N8.get (.tail _ (.tail _ (.tail _ (hsub' _ hak)))))
        obtain ⟨_, _, _, hTb⟩ := hkk2.isTup (N8.get (.tail _ (.tail _ (.tail _ (hsub' _ hak2)))))
        walk_at "mine"
        refine item_tupleT hTa (j := 1) (by decide) (by decide) (by rfl) (by rfl) ?_
        walk_at "mine"
        refine item_tupleT hTb (j := 1) (by decide) (by decide) (by rfl) (by rfl) ?_
        walk_at "mine"
        rename Fr _ _ _ _ => F10
        rename News _ _ _ _ => N10
        revert F10 N10
        dsimp only
        revert lt9
        generalize h3.objs.size = a1
        intro lt9 F10 N10
        obtain ⟨ok1, N10, hkey⟩ : ∃ ok1, News g' L' _ ((a1, ok1) :: (d1, o1) :: (I2, oI2) :: (I, oI) :: n') ∧ KeyObj (wn + ln) ok1 := ⟨_, N10, rfl, _, _, _, _, rfl⟩
        have N11 : News g' L' _ ((d1, o1) :: (a1, ok1) :: (I2, oI2) :: (I, oI) :: n') := fun p hp => N10 p (by simp only [List.mem_cons] at hp ⊢; rcases hp with h | h | h <;> simp [h])
        have ha1 : d1 < a1 := lt9 (d1, o1) (.head _)
        have hd1I : I < d1 := l8 (I, oI) (.tail _ (.head _))
        have hd1I2 : I2 < d1 := l8 (I2, oI2) (.head _)
        have hne1 : ∀ p ∈ (a1, ok1) :: (I2, oI2) :: (I, oI) :: n', p.1 ≠ d1 := by
          intro p hp
          rcases List.mem_cons.mp hp with rfl | hp
          · exact Nat.ne_of_gt ha1
          · exact Nat.ne_of_lt (l8 p hp)
        refine tab_dictSet (n := wn + ln) (by dsimp only [Around.deeper]; omega) F10 N11 hne1 (base := (a1, ok1) :: n') (fun p hp => by rcases List.mem_cons.mp hp with h | h <;> simp [h]) (D8 _) (.head _) hkey fun h5 o5 F11 N11 D11 => ?_
        walk_at "mine"
        refine add_callers_K (f := rowFour b (wn, wc) (allFour b f (f.take i)) (f.take j)) (ot := o') (ou := o5) (n := wn + ln) (c := wc * lc) B' F11 X' N11 T' rfl rfl rfl rfl (by dsimp only [Around.deeper]; omega) (by dsimp only [Around.deeper]; omega)
          (.tail _ (.tail _ (.tail _ (.tail _ hdo')))) (.head _) lo' lo8 (nb := (a1, ok1) :: n') (fun p hp => by rcases List.mem_cons.mp hp with h | h <;> simp [h]) (D'.mono fun p hp => .tail _ hp) D11 ?_ fun d6 h6 tk6 o6 F12 N12 l12 lo12 D12 => ?_
        · have h1 := rowFour_length b (wn, wc) (f.take j) (allFour b f (f.take i))
          have h2 := allFour_length b f (f.take i)
          have h3 : (f.take i).length ≤ 20 := by rw [List.length_take]; omega
          have h4 : (f.take j).length ≤ 20 := by rw [List.length_take]; omega
          have h5 := Nat.mul_le_mul h3 hz
          omega
        walk_at "mine"
        rename Fr _ _ _ _ => F13
        rename News _ _ _ _ => N13
        have hd6 : ∀ p ∈ (d1, o5) :: (a1, ok1) :: (I2, oI2) :: (I, oI) :: n', p.1 < d6 := l12
        refine PostI.next ?_
        refine EndI.intro F13 N13 ((I, oI) :: (d6, o6) :: (d1, o5) :: (a1, ok1) :: n') (by simp) (fun p hp => ?_) (fun p hp => ?_) ⟨(d6, o6) :: (d1, o5) :: (a1, ok1) :: n', rfl, fun p hp => ?_, fun p hp => ?_, d6, o6, .head _, lo12, ?_, ⟨by rfl, by rfl, by rfl⟩, by rfl, by rfl⟩
        · simp only [List.mem_cons] at hp ⊢; rcases hp with h | h | h | h | h <;> simp [h]
        · simp only [List.mem_cons] at hp
          rcases hp with rfl | rfl | rfl | rfl | hp
          · exact hoff2 _ (.head _)
          · exact Nat.ne_of_gt (hd6 (I2, oI2) (by simp))
          · exact Nat.ne_of_gt hd1I2
          · exact Nat.ne_of_gt (lt9 (I2, oI2) (by simp))
          · exact hoff2 _ (.tail _ hp)
        · simp only [List.mem_cons] at hp
          rcases hp with rfl | rfl | rfl | hp
          · exact Nat.ne_of_gt (hd6 (I, oI) (by simp))
          · exact Nat.ne_of_gt hd1I
          · exact Nat.ne_of_gt (lt9 (I, oI) (by simp))
          · exact hoff' _ hp
        · exact .tail _ (.tail _ (.tail _ (hsub' p hp)))
        · rw [rowFour_succ hf2, putFour, if_pos hcond]
          exact D12.mono fun p hp => .tail _ (.tail _ hp)
      · rename Fr _ _ _ _ => F9
        rename News _ _ _ _ => N9
        have hcond : ¬ wn + ln ≤ b := by assumption
        refine PostI.next ?_
        refine EndI.intro F9 N9 ((I, oI) :: n') (by simp) (fun p hp => .tail _ hp) hoff2 ⟨n', rfl, hoff', hsub', d', o', hdo', lo', ?_, ⟨by rfl, by rfl, by rfl⟩, by rfl, by rfl⟩
        rw [rowFour_succ hf2, putFour, if_neg hcond]
        exact D'
    · rintro h6 tk6 m6 news6 F6 N6 ⟨n', rfl, hoff', hsub', d', o', hdo', lo', D', ⟨hn1, hn2, hn3⟩, hn4, hn5⟩
      replace F6 : Fr g' L' h6 _ := known3 F6 hn1 hn2 hn3
      replace N6 : News g' L' h6 ((I, oI) :: n') := N6
      rw [List.take_length] at D'
      walk_at "mine"
      rename Fr _ _ _ _ => F7
      rename News _ _ _ _ => N7
      refine PostI.next ?_
      refine EndI.intro F7 N7 n' (by simp) (fun p hp => .tail _ hp) hoff' ⟨hsub', d', o', hdo', lo', ?_, by rfl, by rfl, by rfl⟩
      rw [allFour_succ hf']
      exact D'
  · rintro h' tk m' news' F3 N3 ⟨hsub, d, o, hdo, lo, D, hm1, hm2, hm3⟩
    replace F3 : Fr g' L' h' _ := known F3 hm1
    replace N3 : News g' L' h' news' := N3
    rw [List.take_length] at D
    clear F2 N2 hv
    walk_at "mine"
    dsimp only
    k_unfold
    rename Fr g' L' _ _ => F4
    rename News g' L' _ _ => N4
    exact leaveK_ F4 N4 fun kF kN => k _ _ news' d o kF kN hsub hdo lo D
end
-- part W5
section
local macro_rules | `(tactic| walk_at "mine") => `(tactic| repeat' ((fail_if_success (with_reducible show PostI _ _ _ _ _ _ _ _ _)); (fail_if_success (with_reducible show wpAny _ _ (exec (Stmt.For _ _ _ _ _) _) _ _ _)); (fail_if_success (with_reducible show wpAny _ _ (eval (Expr.Dict (_ :: _) _ _) _) _ _ _)); (fail_if_success (with_reducible show wpAny _ _ (eval (Expr.Name (Str.ofString "inner") _) _) _ _ _)); (fail_if_success (with_reducible show wpAny _ _ (truthy (Value.int _ _)) _ _ _)); (fail_if_success (with_reducible show wpAny _ _ (eval (Expr.Name (Str.ofString "a_digits") _) _) _ _ _)); (fail_if_success (with_reducible show wpAny _ _ (PySem.call (Value.ref _) _ _) _ _ _)); first | (k_unfold; (try dsimp only)) | (k_end; wrow_close) | walk1 | (dsimp only; walk1) | (leave1; walk_say "STEP leave1"; try dsimp only)))
local macro_rules | `(tactic| k_room) => `(tactic| ((try simp only [depth_under_make, depth_under_kw, depth_in1, depth_deeper, depth_caller, recursionLimit] at *); omega))

local macro_rules | `(tactic| walk_at "mine2") => `(tactic| repeat' ((fail_if_success (with_reducible show wpAny _ _ (eval (Expr.Name (Str.ofString "inner") _) _) _ _ _)); (fail_if_success (with_reducible show wpAny _ _ (eval (Expr.Name (Str.ofString "n") _) _) _ _ _)); (fail_if_success (with_reducible show wpAny _ _ (truthy (Value.bool _)) _ _ _)); (fail_if_success (with_reducible show wpAny _ _ (binaryOp Operator.Mult _ _) _ _ _)); (fail_if_success (with_reducible show wpAny _ _ (binaryOp Operator.RShift _ _) _ _ _)); (fail_if_success (with_reducible show wpAny _ _ (binaryOp Operator.LShift _ _) _ _ _)); (fail_if_success (with_reducible show wpAny _ _ (binaryOp Operator.BitXor _ _) _ _ _)); (fail_if_success (with_reducible show wpAny _ _ (eval (Expr.Name (Str.ofString "a_digits") _) _) _ _ _)); (fail_if_success (with_reducible show wpAny _ _ (PySem.call (Value.ref _) _ _) _ _ _)); first | (k_unfold; (try dsimp only)) | (k_end; wrow_close) | walk1 | (dsimp only; walk1) | (leave1; walk_say "STEP leave1"; try dsimp only)))
def midOf (lo hi : Int) : Int := (lo + hi).fdiv (2 ^ (1 : Int).toNat)
def shOf (n lo hi : Int) : Int := (midOf lo hi - lo) * n
def upOf (n x lo hi : Int) : Int := x.fdiv (2 ^ (shOf n lo hi).toNat)
def lowOf (n x lo hi : Int) : Int := Builtin.bitXor x (upOf n x lo hi * 2 ^ (shOf n lo hi).toNat)
def fillD (n : Int) : Nat → Int → Int → Int → List Int → List Int
  | 0, _, _, _, ds => ds
  | k + 1, x, lo, hi, ds => if lo + 1 = hi then ds.set lo.toNat x else fillD n k (upOf n x lo hi) (midOf lo hi) hi (fillD n k (lowOf n x lo hi) lo (midOf lo hi) ds)
theorem fillD_length (n : Int) : ∀ (k : Nat) (x lo hi : Int) (ds : List Int), (fillD n k x lo hi ds).length = ds.length
  | 0, _, _, _, _ => rfl
  | k + 1, x, lo, hi, ds => by
    unfold fillD
    split
    · exact List.length_set ..
    · rw [fillD_length n k, fillD_length n k]
theorem midOf_eq (lo hi : Int) : midOf lo hi = (lo + hi) / 2 := by
  unfold midOf
  rw [show (2 : Int) ^ (1 : Int).toNat = 2 from rfl, Int.fdiv_eq_ediv_of_nonneg _ (by omega)]
theorem mid_bounds {lo hi : Int} (h1 : lo + 1 < hi) : lo < midOf lo hi ∧ midOf lo hi < hi := by
  rw [midOf_eq]; omega
theorem xs_fin {P : Int → Int → Prop} (h : ∀ x : Fin 32, ∀ y : Fin 26, P x.val y.val) {x y : Int} (ha0 : 0 ≤ x) (ha1 : x ≤ 31) (hn0 : 0 ≤ y) (hn1 : y ≤ 25) : P x y := by
  have h1 := h ⟨x.toNat, by omega⟩ ⟨y.toNat, by omega⟩
  dsimp only at h1
  rwa [show ((x.toNat : Nat) : Int) = x from by omega, show ((y.toNat : Nat) : Int) = y from by omega] at h1
theorem part_bounds {x sh : Int} (h0 : 0 ≤ x) (h1 : x ≤ 31) (h2 : 0 ≤ sh) (h3 : sh ≤ 25) : (0 ≤ x.fdiv (2 ^ sh.toNat) ∧ x.fdiv (2 ^ sh.toNat) ≤ 31) ∧ 0 ≤ Builtin.bitXor x (x.fdiv (2 ^ sh.toNat) * 2 ^ sh.toNat) ∧ Builtin.bitXor x (x.fdiv (2 ^ sh.toNat) * 2 ^ sh.toNat) ≤ 31 :=
  xs_fin (P := fun x sh => (0 ≤ x.fdiv (2 ^ sh.toNat) ∧ x.fdiv (2 ^ sh.toNat) ≤ 31) ∧ 0 ≤ Builtin.bitXor x (x.fdiv (2 ^ sh.toNat) * 2 ^ sh.toNat) ∧ Builtin.bitXor x (x.fdiv (2 ^ sh.toNat) * 2 ^ sh.toNat) ≤ 31) (by decide +kernel) h0 h1 h2 h3
def numDig (a n : Int) : Int := ((Builtin.Int.intBits a : Int) + n - 1).fdiv n
theorem small_fin {P : Int → Int → Prop} (h : ∀ x : Fin 17, ∀ y : Fin 6, 1 ≤ x.val → 1 ≤ y.val → P x.val y.val) {a n : Int} (ha0 : 1 ≤ a) (ha1 : a ≤ 16) (hn0 : 1 ≤ n) (hn1 : n ≤ 5) : P a n := by
  have h1 := h ⟨a.toNat, by omega⟩ ⟨n.toNat, by omega⟩ (by dsimp only; omega) (by dsimp only; omega)
  dsimp only at h1
  rwa [show ((a.toNat : Nat) : Int) = a from by omega, show ((n.toNat : Nat) : Int) = n from by omega] at h1
def digs (a n : Int) : List Int := fillD n 5 a 0 (numDig a n) (List.replicate (numDig a n).toNat 0)
theorem numDig_bounds {a n : Int} (ha0 : 1 ≤ a) (ha1 : a ≤ 16) (hn0 : 1 ≤ n) (hn1 : n ≤ 5) : 1 ≤ numDig a n ∧ numDig a n ≤ 5 :=
  small_fin (P := fun a n => 1 ≤ numDig a n ∧ numDig a n ≤ 5) (by decide +kernel) ha0 ha1 hn0 hn1

local macro_rules | `(tactic| k_all) => `(tactic| exact Low.ne (by assumption) (by omega))
local macro_rules | `(tactic| k_all) => `(tactic| with_reducible assumption)
local macro_rules | `(tactic| k_mem) => `(tactic| with_reducible assumption)
set_option maxHeartbeats 1000000 in
theorem int2digits_K : ∀ {w : World} {A₀ A : Around} {base h₀ : Heap} {env : Env} {outer : List Env} {L : Addr} {m mg mb : Str → Option Value} {loose : List Str} {mean : ExcName → Option Value} {rest : List (Addr × Obj)} {ps : Array Value} {s : Shared} {a n : Int} {ta tn : Tok} {bx : List Addr} {E : Value → Shared → Prop} {Q : Value → Shared → Prop}
    (B : Below A₀ base outer h₀) (F : Fr h₀ L s.heap m) (X : (Mine.hd.heap_39 w.params).In h₀) (N : News h₀ L s.heap ((44, tabObj ps) :: rest)) (T : Top topProg loose mean mg mb h₀)
    (hA : A.frames = some (env :: outer)) (hf : env.frame = some L) (hk : env.scope.kind = .function) (hh : A.handled = none) (hd : A.depth + 20 < recursionLimit) (hu : A.units + 200 < cLine)
    (C : CodeHd h₀ 48 44) (hoff : ∀ p ∈ rest, p.1 ≠ 44) (hbx : ∀ b ∈ bx, ∃ o, (b, o) ∈ rest) (tb : TabOk bx rest 51 4 (Str.ofString "_int2digits.<locals>.inner") ps) (ha0 : 1 ≤ a) (ha1 : a ≤ 16) (hn0 : 1 ≤ n) (hn1 : n ≤ 5) 
    (k : ∀ h' tk ps' rest' la vs, Fr h₀ L h' m → News h₀ L h' ((44, tabObj ps') :: rest') → (∀ p ∈ rest', p.1 ≠ 44) → TabOk bx rest' 51 4 (Str.ofString "_int2digits.<locals>.inner") ps' → (∀ p ∈ rest, p ∈ rest') → (la, W.listOf vs.toArray 0) ∈ rest' → IntsAre vs (digs a n) → Q (.ref la) { s with heap := h', toks := tk }),
    wpAny (model PySem.Challenge.rw_hz0002_01.row.prog w) A (call (.ref 49) [.int a ta, .int n tn]) Q E s := by
  k_fill
  intro w A₀ A base h₀ env outer L m mg mb loose mean rest ps s a n ta tn bx E Q B F X N T hA hf hk hh hd hu C hoff hbx tb ha0 ha1 hn0 hn1 k
  obtain ⟨hd', dp, fr, gs, un⟩ := A
  dsimp only at hA hh hd hu
  subst hA hh
  refine wpAny_call ?_
  refine code_defC B F X N T rfl hf hk (by k_is) (by k_is) (by dsimp only [recursionLimit] at *; omega) (BindsTo.of_eq rfl) (by exact rfl) (by decide +kernel) ?_ rfl rfl rfl
  intro g' L' h' tk' cells' FG' F' N' Y' B' X' T' l1
  dsimp only
  obtain ⟨oi, oa, on, hE, di, da, dn⟩ := CellsAre.three Y'
  subst hE
  simp only [List.cons_append, List.nil_append] at N'
  try k_fold
  have C' : CodeHd g' 48 44 := C.keeps FG'.keep
  clear B F X N T FG' C
  have lowr : Low L' rest := fun p hp => l1 p (.tail _ hp)
  have lP : 44 < L' := l1 (44, tabObj ps) (.head _)
  walk_at "mine"
  rename Fr _ _ _ _ => F1
  rename News _ _ _ _ => N1
  obtain ⟨q0, q1⟩ := numDig_bounds ha0 ha1 hn0 hn1
  refine KMa.mul F1 N1 (x := numDig a n) (News.isList N1 (.head _)) (by omega) (by omega) ?_ rfl ?_
  · show 1 * _ ≤ 256
    omega
  intro la h3 F2 N2 l2
  have l2L : L' + 1 + 1 + 1 < la := l2 (L' + 1 + 1 + 1, oi) (.tail _ (.head _))
  replace l2L := ltN l2L
  have l2L2 : _ < la := l2 _ (.head _)
  dsimp only at l2L2
  replace l2L2 := ltN l2L2
  replace lP := ltN lP
  walk_at "mine"
  rename Fr _ _ _ _ => F3
  rename News _ _ _ _ => N3
  obtain ⟨oa2, hoa2, N4⟩ : ∃ oa2 : Obj, oa2.data = .cell (some (.ref la)) ∧ News g' L' _ ((44, tabObj ps) :: (la, W.listOf (List.replicate (numDig a n).toNat [Value.int 0 tk']).flatten.toArray 0) :: (L' + 1 + 1 + 1, oi) :: (L' + 1 + 1, oa2) :: (L' + 1, on) :: rest) := ⟨_, by assumption, fun p hp => N3 p (by
    simp only [List.mem_cons] at hp ⊢; rcases hp with h | h | h | h | h | h <;> simp [h])⟩
  have hoff4 : ∀ q ∈ (la, W.listOf (List.replicate (numDig a n).toNat [Value.int 0 tk']).flatten.toArray 0) :: (L' + 1 + 1 + 1, oi) :: (L' + 1 + 1, oa2) :: (L' + 1, on) :: rest, q.1 ≠ 44 := by
    intro q hq
    simp only [List.mem_cons] at hq
    rcases hq with rfl | rfl | rfl | rfl | hq
    · exact neN (by omega)
    · exact neN (by omega)
    · exact neN (by omega)
    · exact neN (by omega)
    · exact hoff q hq
  refine nestDef_K rfl rfl rfl ?_
  refine nest_any F3 N4 T' C' rfl hoff4 (tb.mono fun p hp => .tail _ (.tail _ (.tail _ (.tail _ hp)))) (fun b hb => let ⟨o, ho⟩ := hbx b hb; ⟨o, .tail _ (.tail _ (.tail _ (.tail _ ho)))⟩) rfl fun f c' oc vs t ctv doc h5 tk5 ps5 ex F5 N5 lex hmem hd5 hv5 tb5 lf => ?_
  obtain ⟨fo, hfo, N6⟩ := news_split N5
  obtain ⟨vs0, ds0, hlo, hi0, hds0⟩ : ∃ vs0 ds0, (List.replicate (numDig a n).toNat [Value.int 0 tk']).flatten = vs0 ∧ IntsAre vs0 ds0 ∧ ds0 = List.replicate (numDig a n).toNat 0 := ⟨_, _, rfl, by rw [List.flatten_replicate_singleton]; exact ints_rep _ _, rfl⟩
  rw [hlo] at N6 hmem tb5 lex lf
  have hl0 : (ds0.length : Int) = numDig a n := by rw [hds0, List.length_replicate]; omega
  have hfla : la < f := lf (la, W.listOf vs0.toArray 0) (by simp)
  have hflc : L' + 1 + 1 + 1 < f := lf (L' + 1 + 1 + 1, oi) (by simp)
  have hf44 : 44 < f := lf (44, tabObj ps) (.head _)
  replace hfla := ltN hfla
  replace hflc := ltN hflc
  replace hf44 := ltN hf44
  have hexc : ∀ q ∈ ex, L' + 1 + 1 + 1 < q.1 := fun q hq => lex q hq (L' + 1 + 1 + 1, oi) (by simp)
  have hexl : ∀ q ∈ ex, la < q.1 := fun q hq => lex q hq (la, W.listOf vs0.toArray 0) (by simp)
  have N7 : News g' L' h5 ((L' + 1 + 1 + 1, oi) :: (la, W.listOf vs0.toArray 0) :: (f, fo) :: (44, tabObj ps5) :: (L' + 1 + 1, oa2) :: (L' + 1, on) :: (ex ++ rest)) := fun p hp => N6 p (by
    simp only [List.mem_cons, List.mem_append] at hp ⊢; rcases hp with h | h | h | h | h | h | h | h <;> simp [h])
  refine storeX_C F5 N7 (by rfl) (.head ?_) di ?_ (by rfl) (by rfl)
  · intro q hq
    simp only [List.mem_cons, List.mem_append] at hq
    rcases hq with rfl | rfl | rfl | rfl | rfl | hq | hq
    · exact neN (by omega)
    · exact neN (by omega)
    · exact neN (by omega)
    · exact neN (by omega)
    · exact neN (by omega)
    · exact Nat.ne_of_gt (hexc q hq)
    · exact lowr.ne (by omega) q hq
  intro h6 oi2 F6 N8 hoi2
  dsimp only at N8 ⊢
  obtain ⟨R, hR, N9⟩ : ∃ R, R = (f, fo) :: (L' + 1 + 1 + 1, oi2) :: (L' + 1 + 1, oa2) :: (L' + 1, on) :: (44, tabObj ps5) :: (ex ++ rest) ∧ News g' L' h6 ((la, W.listOf vs0.toArray 0) :: R) := ⟨_, rfl, fun p hp => N8 p (by
    simp only [List.mem_cons, List.mem_append] at hp ⊢; rcases hp with h | h | h | h | h | h | h | h <;> simp [h])⟩
  have hRla : ∀ p ∈ R, p.1 ≠ la := by
    intro q hq
    rw [hR] at hq
    simp only [List.mem_cons, List.mem_append] at hq
    rcases hq with rfl | rfl | rfl | rfl | rfl | hq | hq
    · exact neN (by omega)
    · exact neN (by omega)
    · exact neN (by omega)
    · exact neN (by omega)
    · exact neN (by omega)
    · exact Nat.ne_of_gt (hexl q hq)
    · exact lowr.ne (by omega) q hq
  have mf : (f, fo) ∈ R := by rw [hR]; exact .head _
  have mi : (L' + 1 + 1 + 1, oi2) ∈ R := by rw [hR]; simp
  have ma : (L' + 1 + 1, oa2) ∈ R := by rw [hR]; simp
  have mn : (L' + 1, on) ∈ R := by rw [hR]; simp
  replace dn : on.data = .cell (some (.int n tn)) := dn
  clear F3 N3 N4 N5 N6 N7 N8 F5 da
  replace F6 : Fr g' L' h6 _ := known F6 (x := Str.ofString "a") (v := .int a ta) (by rfl)
  have hFn : ∀ h : Heap, h.get? f = some fo → FnAt f h := fun h e => ⟨_, _, _, _, by rw [e, hfo]⟩
  have mc : (c', oc) ∈ R := by
    rw [hR]
    simp only [List.mem_cons, List.mem_append, Prod.mk.injEq] at hmem ⊢
    rcases hmem with h | h | h | h | h | h
    · simp [h]
    · rw [h.2] at hd5; cases hd5
    · rw [h.2, di] at hd5; cases hd5
    · rw [h.2, hoa2] at hd5; cases hd5
    · rw [h.2, dn] at hd5; cases hd5
    · simp [h]
  have key : ∀ (fuel : Nat) (A₁ A : Around) (base h₀ : Heap) (env : Env) (outer : List Env) (Lx : Addr) (mx : Str → Option Value) (s : Shared) (vs : List Value) (ds : List Int) (x lo hi : Int) (t1 t2 t3 : Tok) (E Q : Value → Shared → Prop),
      Below A₁ base outer h₀ → Fr h₀ Lx s.heap mx → (Mine.hd.heap_39 w.params).In h₀ → News h₀ Lx s.heap ((la, W.listOf vs.toArray 0) :: R) → Top topProg loose mean mg mb h₀ → A.frames = some (env :: outer) → env.frame = some Lx → env.scope.kind = .function → A.handled = none →
      A.depth + fuel + 2 < recursionLimit → A.units + 10 * fuel + 20 < cLine → IntsAre vs ds → ds.length ≤ 5 → 0 ≤ lo → lo < hi → hi ≤ ds.length → hi - lo ≤ fuel → 0 ≤ x → x ≤ 31 →
      (∀ h' tk vs', Fr h₀ Lx h' mx → News h₀ Lx h' ((la, W.listOf vs'.toArray 0) :: R) → IntsAre vs' (fillD n fuel x lo hi ds) → Q .none { s with heap := h', toks := tk }) →
      wpAny (model PySem.Challenge.rw_hz0002_01.row.prog w) A (call (.ref f) [.int x t1, .int lo t2, .int hi t3]) Q E s := by
    intro fuel
    induction fuel with
    | zero => intros; omega
    | succ fuel ih =>
      intro A₁ A base h₀ env outer Lx mx s vs ds x lo hi t1 t2 t3 E Q B F X N T hA hf hk hh hd hu hi1 hl1 hlo hlh hhl hfu hx0 hx1 k
      obtain ⟨hd', dp, fr, gs, un⟩ := A
      dsimp only at hA hh hd hu
      subst hA hh
      refine wpAny_call ?_
      refine code_nest B F X N T rfl hf hk (by rw [← hfo]; exact .tail _ mf) (codeRec_news N (.tail _ mc) hd5 hv5) (by dsimp only [recursionLimit] at *; omega) (BindsTo.of_eq rfl) (locs rfl) ?_ rfl rfl rfl (by decide)
      intro g2 L2 h2 FG2 F2 N2 B2 X2 T2
      dsimp only
      try k_fold
      clear B F X N T
      walk_at "mine2"
      by_cases hlast : lo + 1 = hi
      · walk1
        refine ite_pos (by simpa using hlast) ?_
        walk_at "mine2"
        rename Fr _ _ _ _ => F3
        rename News _ _ _ _ => N3
        refine nameX_F N3 (by rfl) (.tail _ ma) hoa2 ?_ (by rfl) (by rfl)
        walk_at "mine2"
        rename Fr _ _ _ _ => F4
        rename News _ _ _ _ => N4
        rename IntsAre (List.set _ _ _) _ => hi4
        dsimp only
        k_unfold
        refine leaveK_ F4 N4 fun kF kN => k _ _ _ kF kN ?_
        rw [fillD, if_pos hlast]
        exact hi4
      · walk1
        refine ite_neg (by simpa using hlast) ?_
        obtain ⟨hm1, hm2⟩ := mid_bounds (lo := lo) (hi := hi) (by omega)
        obtain ⟨md, hmd⟩ : ∃ md, md = midOf lo hi := ⟨_, rfl⟩
        rw [← hmd] at hm1 hm2
        obtain ⟨sh, hsh⟩ : ∃ sh, sh = shOf n lo hi := ⟨_, rfl⟩
        have hsh0 : 0 ≤ sh := by rw [hsh, shOf, ← hmd]; exact Int.mul_nonneg (by omega) (by omega)
        have hsh1 : sh ≤ 25 := by
          rw [hsh, shOf, ← hmd]
          have := Int.mul_le_mul (a := md - lo) (b := n) (c := 5) (d := 5) (by omega) (by omega) (by omega) (by omega)
          omega
        obtain ⟨⟨hup0, hup1⟩, hlw0, hlw1⟩ := part_bounds hx0 hx1 hsh0 hsh1
        obtain ⟨up, hup⟩ : ∃ up, up = upOf n x lo hi := ⟨_, rfl⟩
        have hup' : x.fdiv (2 ^ sh.toNat) = up := by rw [hup, upOf, ← hsh]
        rw [hup'] at hup0 hup1 hlw0 hlw1
        obtain ⟨lw, hlw⟩ : ∃ lw, lw = lowOf n x lo hi := ⟨_, rfl⟩
        have hlw' : Builtin.bitXor x (up * 2 ^ sh.toNat) = lw := by rw [hlw, lowOf, ← hup, ← hsh]
        rw [hlw'] at hlw0 hlw1
        walk_at "mine2"
        refine rshV (v := md) (by omega) (by rw [hmd]; rfl) ?_
        walk_at "mine2"
        rename Fr _ _ _ _ => F3
        rename News _ _ _ _ => N3
        refine nameX_F N3 (by rfl) (.tail _ mn) dn ?_ (by rfl) (by rfl)
        walk_at "mine2"
        refine mulV (v := sh) (by rw [hsh, shOf, ← hmd]) (by mul_fits) ?_
        walk_at "mine2"
        refine rshV (v := up) (by omega) hup' ?_
        walk_at "mine2"
        refine lshV (v := up * 2 ^ sh.toNat) (by omega) (by omega) (by omega) rfl ?_
        walk_at "mine2"
        refine xorV (v := lw) hlw' ?_
        walk_at "mine2"
        rename Fr _ _ _ _ => F4
        rename News _ _ _ _ => N4
        refine nameX_F N4 (by rfl) (.tail _ mi) hoi2 ?_ (by rfl) (by rfl)
        refine callWith_F (hFn _ (N4.get (.tail _ mf))) ?_
        walk_at "mine2"
        · exact hFn _ (N4.get (.tail _ mf))
        refine ih _ _ _ _ _ _ _ _ _ vs ds lw lo md _ _ _ _ _ B2 F4 X2 N4 T2 rfl rfl rfl rfl (by dsimp only [Around.deeper]; omega) (by dsimp only [Around.deeper]; omega) hi1 hl1 hlo hm1 (by omega) (by omega) hlw0 hlw1 fun h5 tk5 vs5 F5 N5 hi5 => ?_
        have hl5 : (fillD n fuel lw lo md ds).length = ds.length := fillD_length ..
        walk_at "mine2"
        rename Fr _ _ _ _ => F6
        rename News _ _ _ _ => N6
        refine nameX_F N6 (by rfl) (.tail _ mi) hoi2 ?_ (by rfl) (by rfl)
        refine callWith_F (hFn _ (N6.get (.tail _ mf))) ?_
        walk_at "mine2"
        · exact hFn _ (N6.get (.tail _ mf))
        refine ih _ _ _ _ _ _ _ _ _ vs5 _ up md hi _ _ _ _ _ B2 F6 X2 N6 T2 rfl rfl rfl rfl (by dsimp only [Around.deeper]; omega) (by dsimp only [Around.deeper]; omega) hi5 (by omega) (by omega) hm2 (by omega) (by omega) hup0 hup1 fun h7 tk7 vs7 F7 N7 hi7 => ?_
        walk_at "mine2"
        rename Fr _ _ _ _ => F8
        rename News _ _ _ _ => N8
        refine leaveK_ F8 N8 fun kF kN => k _ _ _ kF kN ?_
        rw [fillD, if_neg hlast, ← hup, ← hlw, ← hmd]
        exact hi7
  walk_at "mine"
  walk1
  refine ite_pos (by simpa using (by omega : a ≠ 0)) ?_
  walk_at "mine"
  rename Fr _ _ _ _ => F7
  rename News _ _ _ _ => N10
  refine nameX_C N10 (by rfl) (.tail _ mi) hoi2 ?_ (by rfl) (by rfl)
  refine callWith_F (hFn _ (N10.get (.tail _ mf))) ?_
  walk_at "mine"
  rename Fr _ _ _ _ => F8
  rename News _ _ _ _ => N11
  refine nameX_C N11 (by rfl) (.tail _ ma) hoa2 ?_ (by rfl) (by rfl)
  walk_at "mine"
  · exact hFn _ (N11.get (.tail _ mf))
  refine key 5 _ _ _ _ _ _ _ _ _ vs0 ds0 a 0 (ds0.length : Int) _ _ _ _ _ B' F8 X' N11 T' rfl rfl rfl rfl (by dsimp only [Around.deeper]; omega) (by dsimp only [Around.deeper]; omega) hi0 (by omega) (by omega) (by omega) (by omega) (by omega) (by omega) (by omega) fun h9 tk9 vs9 F9 N12 hi9 => ?_
  walk_at "mine"
  rename Fr _ _ _ _ => F10
  rename News _ _ _ _ => N13
  refine nameX_C N13 (by rfl) (.tail _ ma) hoa2 ?_ (by rfl) (by rfl)
  dsimp only
  k_unfold
  refine leaveK_ F10 N13 fun kF kN => k _ _ ps5 ((la, W.listOf vs9.toArray 0) :: (f, fo) :: (L' + 1 + 1 + 1, oi2) :: (L' + 1 + 1, oa2) :: (L' + 1, on) :: (ex ++ rest)) la vs9 kF (fun p hp => kN p ?_) (fun q hq => ?_) (tb5.only fun p hp hv => ?_) (fun p hp => by simp [hp]) (.head _) ?_
  · rw [hR]
    simp only [List.mem_cons, List.mem_append] at hp ⊢
    rcases hp with h | h | h | h | h | h | h | h <;> simp [h]
  · simp only [List.mem_cons, List.mem_append] at hq
    rcases hq with rfl | rfl | rfl | rfl | rfl | hq | hq
    · exact neN (by omega)
    · exact neN (by omega)
    · exact neN (by omega)
    · exact neN (by omega)
    · exact neN (by omega)
    · exact Nat.ne_of_gt (Nat.lt_trans lP (Nat.lt_trans (by omega) (hexc q hq)))
    · exact hoff q hq
  · obtain ⟨ws, hws⟩ := hv
    simp only [List.mem_cons, List.mem_append] at hp ⊢
    rcases hp with h | h | h | h | h | h
    · simp [h]
    · rw [h] at hws; cases hws
    · rw [h] at hws; rw [di] at hws; cases hws
    · simp [h]
    · simp [h]
    · simp [h]
  · unfold digs
    rw [hl0, hds0] at hi9
    exact hi9
end
-- part W6
section
local macro_rules | `(tactic| walk_at "mine2") => `(tactic| repeat' ((fail_if_success (with_reducible show wpAny _ _ (eval (Expr.Name (Str.ofString "inner") _) _) _ _ _)); (fail_if_success (with_reducible show wpAny _ _ (eval (Expr.Name (Str.ofString "n") _) _) _ _ _)); (fail_if_success (with_reducible show wpAny _ _ (truthy (Value.bool _)) _ _ _)); (fail_if_success (with_reducible show wpAny _ _ (binaryOp Operator.Mult _ _) _ _ _)); (fail_if_success (with_reducible show wpAny _ _ (binaryOp Operator.RShift _ _) _ _ _)); (fail_if_success (with_reducible show wpAny _ _ (binaryOp Operator.LShift _ _) _ _ _)); (fail_if_success (with_reducible show wpAny _ _ (binaryOp Operator.BitXor _ _) _ _ _)); (fail_if_success (with_reducible show wpAny _ _ (eval (Expr.Name (Str.ofString "digits") _) _) _ _ _)); (fail_if_success (with_reducible show wpAny _ _ (exec (Stmt.FunctionDef _ _ _ _ _ _ _ _ _ _) _) _ _ _)); (fail_if_success (with_reducible show wpAny _ _ (subscriptTail _ _ (Value.ref _) _) _ _ _)); (fail_if_success (with_reducible show wpAny _ _ (truthy (Value.ref _)) _ _ _)); (fail_if_success (with_reducible show wpAny _ _ (PySem.call (Value.ref _) _ _) _ _ _)); first | (k_unfold; (try dsimp only)) | (k_end; wrow_close) | walk1 | (dsimp only; walk1) | (leave1; walk_say "STEP leave1"; try dsimp only)))
local macro_rules | `(tactic| k_all) => `(tactic| exact Low.ne (by assumption) (by omega))
local macro_rules | `(tactic| k_all) => `(tactic| with_reducible assumption)
local macro_rules | `(tactic| k_mem) => `(tactic| with_reducible assumption)

def bnd (k : Int) : Int := 1024 * 64 ^ k.toNat
theorem bnd_fin : ∀ p q n : Fin 6, 1 ≤ p.val → 1 ≤ q.val → p.val + q.val ≤ 5 → bnd (p.val : Int) * 2 ^ (((q.val : Int) * (n.val : Int)).toNat) + bnd (q.val : Int) ≤ bnd ((p.val : Int) + (q.val : Int)) := by decide +kernel
theorem bnd_top : ∀ p : Fin 6, bnd (p.val : Int) < 2 ^ 60 := by decide +kernel
theorem bnd_le {k : Int} (h0 : 0 ≤ k) (h1 : k ≤ 5) : bnd k < 2 ^ 60 := by
  have := bnd_top ⟨k.toNat, by omega⟩
  dsimp only at this
  rwa [show ((k.toNat : Nat) : Int) = k from by omega] at this
theorem bnd_join {p q n v1 v2 : Int} (hp : 1 ≤ p) (hq : 1 ≤ q) (hpq : p + q ≤ 5) (hn0 : 0 ≤ n) (hn1 : n ≤ 5) (h2 : v1 ≤ bnd p) (h4 : v2 ≤ bnd q) : v1 * 2 ^ (q * n).toNat + v2 ≤ bnd (p + q) := by
  have h := bnd_fin ⟨p.toNat, by omega⟩ ⟨q.toNat, by omega⟩ ⟨n.toNat, by omega⟩ (by dsimp only; omega) (by dsimp only; omega) (by dsimp only; omega)
  dsimp only at h
  rw [show ((p.toNat : Nat) : Int) = p from by omega, show ((q.toNat : Nat) : Int) = q from by omega, show ((n.toNat : Nat) : Int) = n from by omega] at h
  have h5 : v1 * 2 ^ (q * n).toNat ≤ bnd p * 2 ^ (q * n).toNat := Int.mul_le_mul_of_nonneg_right h2 (Int.le_of_lt (Int.pow_pos (by decide)))
  omega
theorem bnd_one : bnd 1 = 65536 := by decide

set_option maxHeartbeats 1000000 in
theorem digits2int_K : ∀ {w : World} {A₀ A : Around} {base h₀ : Heap} {env : Env} {outer : List Env} {L : Addr} {m mg mb : Str → Option Value} {loose : List Str} {mean : ExcName → Option Value} {rest : List (Addr × Obj)} {ps : Array Value} {s : Shared} {ld : Addr} {vs : List Value} {ds : List Int} {ed : Nat} {n : Int} {tn : Tok} {bx : List Addr} {E : Value → Shared → Prop} {Q : Value → Shared → Prop}
    (B : Below A₀ base outer h₀) (F : Fr h₀ L s.heap m) (X : (Mine.hd.heap_39 w.params).In h₀) (N : News h₀ L s.heap ((51, tabObj ps) :: rest)) (T : Top topProg loose mean mg mb h₀)
    (hA : A.frames = some (env :: outer)) (hf : env.frame = some L) (hk : env.scope.kind = .function) (hh : A.handled = none) (hd : A.depth + 20 < recursionLimit) (hu : A.units + 200 < cLine)
    (C : CodeHd h₀ 55 51) (hoff : ∀ p ∈ rest, p.1 ≠ 51) (hbx : ∀ b ∈ bx, ∃ o, (b, o) ∈ rest) (tb : TabOk bx rest 66 4 (Str.ofString "_digits2int.<locals>.inner") ps) (hm : (ld, W.listOf vs.toArray ed) ∈ rest) (hi : IntsAre vs ds) (hl0 : 1 ≤ ds.length) (hl1 : ds.length ≤ 5) (hdb : ∀ d ∈ ds, 0 ≤ d ∧ d ≤ 65536) (hn0 : 1 ≤ n) (hn1 : n ≤ 5)
    (k : ∀ h' tk ps' rest' v t, Fr h₀ L h' m → News h₀ L h' ((51, tabObj ps') :: rest') → (∀ p ∈ rest', p.1 ≠ 51) → TabOk bx rest' 66 4 (Str.ofString "_digits2int.<locals>.inner") ps' → (∀ p ∈ rest, p ∈ rest') → Q (.int v t) { s with heap := h', toks := tk }),
    wpAny (model PySem.Challenge.rw_hz0002_01.row.prog w) A (call (.ref 56) [.ref ld, .int n tn]) Q E s := by
  k_fill
  intro w A₀ A base h₀ env outer L m mg mb loose mean rest ps s ld vs ds ed n tn bx E Q B F X N T hA hf hk hh hd hu C hoff hbx tb hm hi hl0 hl1 hdb hn0 hn1 k
  obtain ⟨hd', dp, fr, gs, un⟩ := A
  dsimp only at hA hh hd hu
  subst hA hh
  refine wpAny_call ?_
  refine code_defC B F X N T rfl hf hk (by k_is) (by k_is) (by dsimp only [recursionLimit] at *; omega) (BindsTo.of_eq rfl) (by exact rfl) (by decide +kernel) ?_ rfl rfl rfl
  intro g' L' h' tk' cells' FG' F' N' Y' B' X' T' l1
  dsimp only
  obtain ⟨oi, on, od, hE, di, dn, dd⟩ := CellsAre.three Y'
  subst hE
  simp only [List.cons_append, List.nil_append] at N'
  try k_fold
  have C' : CodeHd g' 55 51 := C.keeps FG'.keep
  clear B F X N T FG' C
  have lowr : Low L' rest := fun p hp => l1 p (.tail _ hp)
  have lP : 51 < L' := l1 (51, tabObj ps) (.head _)
  replace lP := ltN lP
  replace dn : on.data = .cell (some (.int n tn)) := dn
  replace dd : od.data = .cell (some (.ref ld)) := dd
  replace di : oi.data = .cell none := di
  walk_at "mine2"
  have N4 : News g' L' h' ((51, tabObj ps) :: (L' + 1 + 1 + 1, oi) :: (L' + 1 + 1, on) :: (L' + 1, od) :: rest) := fun p hp => N' p (by
    simp only [List.mem_cons] at hp ⊢; rcases hp with h | h | h | h | h <;> simp [h])
  have hoff4 : ∀ q ∈ (L' + 1 + 1 + 1, oi) :: (L' + 1 + 1, on) :: (L' + 1, od) :: rest, q.1 ≠ 51 := by
    intro q hq
    simp only [List.mem_cons] at hq
    rcases hq with rfl | rfl | rfl | hq
    · exact neN (by omega)
    · exact neN (by omega)
    · exact neN (by omega)
    · exact hoff q hq
  refine nestDef_K rfl rfl rfl ?_
  refine nest_any F' N4 T' C' rfl hoff4 (tb.mono fun p hp => .tail _ (.tail _ (.tail _ hp))) (fun b hb => let ⟨o, ho⟩ := hbx b hb; ⟨o, .tail _ (.tail _ (.tail _ ho))⟩) rfl fun f c' oc ws t ctv doc h5 tk5 ps5 ex F5 N5 lex hmem hd5 hv5 tb5 lf => ?_
  obtain ⟨fo, hfo, N6⟩ := news_split N5
  have hflc : L' + 1 + 1 + 1 < f := lf (L' + 1 + 1 + 1, oi) (by simp)
  have hf51 : 51 < f := lf (51, tabObj ps) (.head _)
  replace hflc := ltN hflc
  replace hf51 := ltN hf51
  have hexc : ∀ q ∈ ex, L' + 1 + 1 + 1 < q.1 := fun q hq => lex q hq (L' + 1 + 1 + 1, oi) (by simp)
  have N7 : News g' L' h5 ((L' + 1 + 1 + 1, oi) :: (f, fo) :: (51, tabObj ps5) :: (L' + 1 + 1, on) :: (L' + 1, od) :: (ex ++ rest)) := fun p hp => N6 p (by
    simp only [List.mem_cons, List.mem_append] at hp ⊢; rcases hp with h | h | h | h | h | h | h <;> simp [h])
  refine storeX_C F5 N7 (by rfl) (.head ?_) di ?_ (by rfl) (by rfl)
  · intro q hq
    simp only [List.mem_cons, List.mem_append] at hq
    rcases hq with rfl | rfl | rfl | rfl | hq | hq
    · exact neN (by omega)
    · exact neN (by omega)
    · exact neN (by omega)
    · exact neN (by omega)
    · exact Nat.ne_of_gt (hexc q hq)
    · exact lowr.ne (by omega) q hq
  intro h6 oi2 F6 N8 hoi2
  dsimp only at N8 ⊢
  obtain ⟨R, hR, N9⟩ : ∃ R, R = (f, fo) :: (L' + 1 + 1 + 1, oi2) :: (L' + 1 + 1, on) :: (L' + 1, od) :: (51, tabObj ps5) :: (ex ++ rest) ∧ News g' L' h6 R := ⟨_, rfl, fun p hp => N8 p (by
    simp only [List.mem_cons, List.mem_append] at hp ⊢; rcases hp with h | h | h | h | h | h | h <;> simp [h])⟩
  have mf : (f, fo) ∈ R := by rw [hR]; exact .head _
  have mi : (L' + 1 + 1 + 1, oi2) ∈ R := by rw [hR]; simp
  have mn : (L' + 1 + 1, on) ∈ R := by rw [hR]; simp
  have md : (L' + 1, od) ∈ R := by rw [hR]; simp
  have ml : (ld, W.listOf vs.toArray ed) ∈ R := by rw [hR]; simp [hm]
  clear N4 N5 N6 N7 N8 F5 N'
  have hFn : ∀ h : Heap, h.get? f = some fo → FnAt f h := fun h e => ⟨_, _, _, _, by rw [e, hfo]⟩
  have mc : (c', oc) ∈ R := by
    rw [hR]
    simp only [List.mem_cons, List.mem_append, Prod.mk.injEq] at hmem ⊢
    rcases hmem with h | h | h | h | h
    · simp [h]
    · rw [h.2, di] at hd5; cases hd5
    · rw [h.2, dn] at hd5; cases hd5
    · rw [h.2, dd] at hd5; cases hd5
    · simp [h]
  have key : ∀ (fuel : Nat) (A₁ A : Around) (base h₀ : Heap) (env : Env) (outer : List Env) (Lx : Addr) (mx : Str → Option Value) (s : Shared) (lo hi : Int) (t2 t3 : Tok) (E Q : Value → Shared → Prop),
      Below A₁ base outer h₀ → Fr h₀ Lx s.heap mx → (Mine.hd.heap_39 w.params).In h₀ → News h₀ Lx s.heap R → Top topProg loose mean mg mb h₀ → A.frames = some (env :: outer) → env.frame = some Lx → env.scope.kind = .function → A.handled = none →
      A.depth + fuel + 2 < recursionLimit → A.units + 10 * fuel + 20 < cLine → 0 ≤ lo → lo < hi → hi ≤ ds.length → hi - lo ≤ fuel →
      (∀ h' tk v t, Fr h₀ Lx h' mx → News h₀ Lx h' R → 0 ≤ v → v ≤ bnd (hi - lo) → Q (.int v t) { s with heap := h', toks := tk }) →
      wpAny (model PySem.Challenge.rw_hz0002_01.row.prog w) A (call (.ref f) [.int lo t2, .int hi t3]) Q E s := by
    intro fuel
    induction fuel with
    | zero => intros; omega
    | succ fuel ih =>
      intro A₁ A base h₀ env outer Lx mx s lo hi' t2 t3 E Q B F X N T hA hf hk hh hd hu hlo hlh hhl hfu k
      obtain ⟨hd', dp, fr, gs, un⟩ := A
      dsimp only at hA hh hd hu
      subst hA hh
      refine wpAny_call ?_
      refine code_nest B F X N T rfl hf hk (by rw [← hfo]; exact mf) (codeRec_news N mc hd5 hv5) (by dsimp only [recursionLimit] at *; omega) (BindsTo.of_eq rfl) (locs rfl) ?_ rfl rfl rfl (by decide)
      intro g2 L2 h2 FG2 F2 N2 B2 X2 T2
      dsimp only
      try k_fold
      clear B F X N T
      walk_at "mine2"
      by_cases hlast : lo + 1 = hi'
      · walk1
        refine ite_pos (by simpa using hlast) ?_
        walk_at "mine2"
        rename Fr _ _ _ _ => F3
        rename News _ _ _ _ => N3
        refine nameX_F N3 (by rfl) md dd ?_ (by rfl) (by rfl)
        walk_at "mine2"
        rename Fr _ _ _ _ => F4
        rename News _ _ _ _ => N4
        refine ksa_sub N4 ml hi hlo (by omega) (by omega) ?_
        intro t5
        walk_at "mine2"
        rename Fr _ _ _ _ => F5
        rename News _ _ _ _ => N5
        dsimp only
        k_unfold
        have hdm := hdb (ds.getD lo.toNat 0) (by
          rw [List.getD_eq_getElem?_getD, List.getElem?_eq_getElem (by omega)]
          exact List.getElem_mem _)
        refine leaveK_ F5 N5 fun kF kN => k _ _ _ _ kF kN hdm.1 ?_
        rw [show hi' - lo = 1 from by omega, bnd_one]
        exact hdm.2
      · walk1
        refine ite_neg (by simpa using hlast) ?_
        obtain ⟨hm1, hm2⟩ := mid_bounds (lo := lo) (hi := hi') (by omega)
        obtain ⟨md', hmd⟩ : ∃ md', md' = midOf lo hi' := ⟨_, rfl⟩
        rw [← hmd] at hm1 hm2
        obtain ⟨sh, hsh⟩ : ∃ sh, sh = (md' - lo) * n := ⟨_, rfl⟩
        have hsh0 : 0 ≤ sh := by rw [hsh]; exact Int.mul_nonneg (by omega) (by omega)
        have hsh1 : sh ≤ 25 := by
          rw [hsh]
          have := Int.mul_le_mul (a := md' - lo) (b := n) (c := 5) (d := 5) (by omega) (by omega) (by omega) (by omega)
          omega
        walk_at "mine2"
        refine rshV (v := md') (by omega) (by rw [hmd]; rfl) ?_
        walk_at "mine2"
        rename Fr _ _ _ _ => F3
        rename News _ _ _ _ => N3
        refine nameX_F N3 (by rfl) mn dn ?_ (by rfl) (by rfl)
        walk_at "mine2"
        refine mulV (v := sh) hsh.symm (by mul_fits) ?_
        walk_at "mine2"
        rename Fr _ _ _ _ => F4
        rename News _ _ _ _ => N4
        refine nameX_F N4 (by rfl) mi hoi2 ?_ (by rfl) (by rfl)
        refine callWith_F (hFn _ (N4.get mf)) ?_
        walk_at "mine2"
        · exact hFn _ (N4.get mf)
        refine ih _ _ _ _ _ _ _ _ _ md' hi' _ _ _ _ B2 F4 X2 N4 T2 rfl rfl rfl rfl (by dsimp only [Around.deeper]; omega) (by dsimp only [Around.deeper]; omega) (by omega) hm2 (by omega) (by omega) fun h5 tk5 v1 u1 F5 N5 hv10 hv11 => ?_
        have hb1 : bnd (hi' - md') < 2 ^ 60 := bnd_le (by omega) (by omega)
        walk_at "mine2"
        refine lshV (v := v1 * 2 ^ sh.toNat) (by omega) (by omega) (by omega) rfl ?_
        walk_at "mine2"
        rename Fr _ _ _ _ => F6
        rename News _ _ _ _ => N6
        refine nameX_F N6 (by rfl) mi hoi2 ?_ (by rfl) (by rfl)
        refine callWith_F (hFn _ (N6.get mf)) ?_
        walk_at "mine2"
        · exact hFn _ (N6.get mf)
        refine ih _ _ _ _ _ _ _ _ _ lo md' _ _ _ _ B2 F6 X2 N6 T2 rfl rfl rfl rfl (by dsimp only [Around.deeper]; omega) (by dsimp only [Around.deeper]; omega) hlo hm1 (by omega) (by omega) fun h7 tk7 v2 u2 F7 N7 hv20 hv21 => ?_
        have hsum := bnd_join (p := hi' - md') (q := md' - lo) (n := n) (by omega) (by omega) (by omega) (by omega) hn1 hv11 hv21
        rw [← hsh, show hi' - md' + (md' - lo) = hi' - lo from by omega] at hsum
        have hnn : 0 ≤ v1 * 2 ^ sh.toNat := Int.mul_nonneg hv10 (Int.le_of_lt (Int.pow_pos (by decide)))
        obtain ⟨vv, hvv⟩ : ∃ vv, vv = v1 * 2 ^ sh.toNat := ⟨_, rfl⟩
        rw [← hvv] at hsum hnn ⊢
        walk_at "mine2"
        rename Fr _ _ _ _ => F8
        rename News _ _ _ _ => N8
        (try dsimp only)
        (try k_unfold)
        exact leaveK_ F8 N8 fun kF kN => k _ _ _ _ kF kN (by omega) hsum
  walk_at "mine2"
  rename Fr _ _ _ _ => F7
  refine nameX_C N9 (by rfl) md dd ?_ (by rfl) (by rfl)
  have hvl : vs.length = ds.length := hi.length
  refine wpAny_truthy_list (PySem.IsL.isList (n := ed) (N9.get ml)) (by rw [List.size_toArray]; omega) ?_
  rw [show (!vs.toArray.isEmpty) = true from by
    have : vs ≠ [] := fun e => by rw [e] at hvl; simp at hvl; omega
    simpa using this]
  refine ite_pos rfl ?_
  walk_at "mine2"
  refine nameX_C N9 (by rfl) mi hoi2 ?_ (by rfl) (by rfl)
  refine callWith_F (hFn _ (N9.get mf)) ?_
  walk_at "mine2"
  rename Fr _ _ _ _ => F8
  refine nameX_C N9 (by rfl) md dd ?_ (by rfl) (by rfl)
  walk_at "mine2"
  refine PySem.Calls.call_len_list (PySem.IsL.isList (n := ed) (N9.get ml)) (by rw [List.size_toArray]; omega) ?_
  walk_at "mine2"
  · exact hFn _ (N9.get mf)
  have hsz : ((vs.toArray.size : Nat) : Int) = (ds.length : Int) := by rw [List.size_toArray, hvl]
  rw [hsz]
  refine key 5 _ _ _ _ _ _ _ _ _ 0 (ds.length : Int) _ _ _ _ B' F8 X' N9 T' rfl rfl rfl rfl (by dsimp only [Around.deeper]; omega) (by dsimp only [Around.deeper]; omega) (by omega) (by omega) (by omega) (by omega) fun h9 tk9 v9 t9 F9 N12 hv90 hv91 => ?_
  walk_at "mine2"
  rename Fr _ _ _ _ => F10
  rename News _ _ _ _ => N13
  refine leaveK_ F10 N13 fun kF kN => k _ _ ps5 ((f, fo) :: (L' + 1 + 1 + 1, oi2) :: (L' + 1 + 1, on) :: (L' + 1, od) :: (ex ++ rest)) v9 t9 kF (fun p hp => kN p ?_) (fun q hq => ?_) (tb5.only fun p hp hv => ?_) (fun p hp => by simp [hp])
  · rw [hR]
    simp only [List.mem_cons, List.mem_append] at hp ⊢
    rcases hp with h | h | h | h | h | h | h <;> simp [h]
  · simp only [List.mem_cons, List.mem_append] at hq
    rcases hq with rfl | rfl | rfl | rfl | hq | hq
    · exact neN (by omega)
    · exact neN (by omega)
    · exact neN (by omega)
    · exact neN (by omega)
    · exact Nat.ne_of_gt (Nat.lt_trans lP (Nat.lt_trans (by omega) (hexc q hq)))
    · exact hoff q hq
  · obtain ⟨ws', hws⟩ := hv
    simp only [List.mem_cons, List.mem_append] at hp ⊢
    rcases hp with h | h | h | h | h
    · simp [h]
    · rw [h] at hws; rw [di] at hws; cases hws
    · simp [h]
    · simp [h]
    · simp [h]
end
-- part W7
section
local macro_rules | `(tactic| walk_at "mine3") => `(tactic| repeat' ((fail_if_success (with_reducible show PostI _ _ _ _ _ _ _ _ _)); (fail_if_success (with_reducible show wpAny _ _ (exec (Stmt.For _ _ _ _ _) _) _ _ _)); (fail_if_success (with_reducible show wpAny _ _ (subscriptTail _ _ (Value.ref _) _) _ _ _)); (fail_if_success (with_reducible show wpAny _ _ (PySem.call (Value.ref _) _ _) _ _ _)); (fail_if_success (with_reducible show wpAny _ _ (PySem.call (Value.builtin "divmod") _ _) _ _ _)); (fail_if_success (with_reducible show wpAny _ _ (PySem.call (Value.builtin "list.append") _ _) _ _ _)); (fail_if_success (with_reducible show wpAny _ _ (PySem.call (Value.builtin "list.reverse") _ _) _ _ _)); (fail_if_success (with_reducible show wpAny _ _ (PySem.call (Value.type "reversed") _ _) _ _ _)); (fail_if_success (with_reducible show wpAny _ _ (binaryOp Operator.LShift _ _) _ _ _)); first | (k_unfold; (try dsimp only)) | (k_end; wrow_close) | walk1 | (dsimp only; walk1) | (leave1; walk_say "STEP leave1"; try dsimp only)))

theorem intBits_small {a : Int} (h0 : 0 ≤ a) (h1 : a ≤ 65536) : (Builtin.Int.intBits a : Int) ≤ 20 := by
  have : Builtin.Int.intBits a ≤ 20 := PySem.intBits_le_iff.mpr (by omega)
  omega

set_option maxHeartbeats 1000000 in
theorem div2n1n_K : ∀ {w : World} {A₀ A : Around} {base h₀ : Heap} {env : Env} {outer : List Env} {L : Addr} {m mg mb : Str → Option Value} {loose : List Str} {mean : ExcName → Option Value} {news : List (Addr × Obj)} {s : Shared} {a b n : Int} {ta tb tn : Tok} {E : Value → Shared → Prop} {Q : Value → Shared → Prop}
    (B : Below A₀ base outer h₀) (F : Fr h₀ L s.heap m) (X : (Mine.hd.heap_39 w.params).In h₀) (N : News h₀ L s.heap news) (T : Top topProg loose mean mg mb h₀)
    (hA : A.frames = some (env :: outer)) (hf : env.frame = some L) (hk : env.scope.kind = .function) (hh : A.handled = none) (hd : A.depth + 4 < recursionLimit) (hu : A.units + 20 < cLine)
    (ha0 : 0 ≤ a) (ha1 : a ≤ 65536) (hb0 : 1 ≤ b) (hb1 : b ≤ 16) (hn0 : 0 ≤ n)
    (k : ∀ h' tk d t u, Fr h₀ L h' m → News h₀ L h' ((d, { cls := .type "tuple", data := .seq #[.int (a.fdiv b) t, .int (a.fmod b) u] }) :: news) → (∀ p ∈ news, p.1 < d) → Q (.ref d) { s with heap := h', toks := tk }),
    wpAny (model PySem.Challenge.rw_hz0002_01.row.prog w) A (call (.ref 35) [.int a ta, .int b tb, .int n tn]) Q E s := by
  k_fill
  intro w A₀ A base h₀ env outer L m mg mb loose mean news s a b n ta tb tn E Q B F X N T hA hf hk hh hd hu ha0 ha1 hb0 hb1 hn0 k
  obtain ⟨hd', dp, fr, gs, un⟩ := A
  dsimp only at hA hh hd hu
  subst hA hh
  have hbl := intBits_small ha0 ha1
  have hbl2 : (Builtin.Int.intBits a : Int) - n ≤ 4000 := by omega
  clear hbl
  refine wpAny_call ?_
  refine code_def B F X N T rfl hf hk (by k_is) (by k_is) (by dsimp only [recursionLimit] at *; omega) (BindsTo.of_eq rfl) (locs rfl) ?_ rfl rfl rfl (by decide)
  intro g' L' h' FG' F' N' B' X' T'
  dsimp only
  try k_fold
  clear B F X N T FG'
  walk_at "mine3"
  rename Fr _ _ _ _ => F1
  rename News _ _ _ _ => N1
  have lt1 : ∀ p ∈ news, p.1 < _ := fun p hp => Heap.lt_size (N1 p hp).1
  refine divmod_N F1 N1 (by omega) (fun h2 F2 N2 => ?_) (.inl (PyProof.noPylong_small (by omega)))
  try dsimp only at lt1
  walk_at "mine3"
  (try dsimp only)
  (try k_unfold)
  exact leaveK_ F2 N2 fun kF kN => k _ _ _ _ _ kF kN lt1

section
variable {prog : Program} {w : World} {A : Around} {E : Value → Shared → Prop} {s : Shared} {env : Env} {h₀ : Heap} {body : List Stmt} {Q : Flow → Shared → Prop} {x : Str} {px : Pos}
/-- for X in reversed(L): L stands in the ledger and stays -/
theorem rev_loop {I l : Addr} {vs : List Value} {ed : Nat} {m : Str → Option Value} {news : List (Addr × Obj)}
    (hh : A.handled = none) (hx : env.kindOf x = some .local) (hpl : (env.scope.kind == .class || (env.scope.kind == .module && env.locals != env.globals)) = false)
    (F : Fr h₀ env.locals s.heap m) (N : News h₀ env.locals s.heap ((I, revObj l ((vs.length : Int) - 1)) :: news)) (hoff : ∀ p ∈ news, p.1 ≠ I) (hm : (l, W.listOf vs.toArray ed) ∈ news)
    (J : Nat → (Str → Option Value) → List (Addr × Obj) → Prop) (h0 : J 0 m news) (hkeep : ∀ i m n, J i m n → (l, W.listOf vs.toArray ed) ∈ n)
    (step : ∀ i v m₁ news₁ h₁ tk₁ oI, vs.reverse[i]? = some v → J i m₁ news₁ → (∀ p ∈ news₁, p.1 ≠ I) → Fr h₀ env.locals h₁ (fun y => if y = x then some v else m₁ y) → News h₀ env.locals h₁ ((I, oI) :: news₁) →
      wpAny (model prog w) A (execs body env) (PostI h₀ env.locals I oI (J (i + 1)) { s with heap := h₁, toks := tk₁ } Q) E { s with heap := h₁, toks := tk₁ })
    (done : ∀ h' tk m' news', Fr h₀ env.locals h' m' → News h₀ env.locals h' news' → J vs.length m' news' → Q .next { s with heap := h', toks := tk }) :
    wpAny (model prog w) A (pyIter (.ref I)) (fun it s₂ => TurnsAt prog w A h₀ env (.Name x px) body Q E it s₂) E s := by
  have hIx := N _ (List.mem_cons_self ..)
  have N1 : News h₀ env.locals s.heap news := fun p hp => N p (.tail _ hp)
  have hax := N1 _ hm
  have hl : s.heap.IsList l vs.toArray := ⟨_, hax.1, rfl, ed, rfl⟩
  have hne : l ≠ I := hoff _ hm
  have hit : s.heap.IsRevIter I l ((vs.length : Int) - 1) := ⟨_, hIx.1, rfl, rfl⟩
  refine wpAny_pyIter_revIter hit ?_
  have Wk := Walks.listRev (prog := prog) (w := w) hh I l hne vs.toArray
  have hlen : vs.toArray.size = vs.length := by simp
  rw [hlen] at Wk
  refine turnsAt_of [(l, W.listOf vs.toArray ed)] (KTurns.ofWalks (target := .Name x px) Wk fun i v s Q E st q => letGo_name q) (by simp) (fun b hb => ?_) hIx.2.2 (fun e => hIx.2.1 e.symm) hoff
    ⟨Nat.zero_le _, by simpa using hit, hl⟩ (fun i h st => let ⟨_, ⟨o, ho, _⟩, _⟩ := st; ⟨o, ho⟩) F N1 J h0 (fun i m n hJ p hp => by rw [List.mem_singleton.mp hp]; exact hkeep i m n hJ) ?_ done
  · have hb' : b = I ∨ b = l := by simpa using hb
    rcases hb' with e | e
    · exact .inl e
    · exact .inr (.inl ⟨_, by rw [e]; exact .head _⟩)
  · rintro i v m₁ news₁ h₁ tk₁ oI hin hv hJ hoff₁ F₁ N₁
    refine wpAny_assign_Name (wpAny_storeName_local hx F₁.ns (fun h₂ hn₂ hs₂ => ?_) hpl)
    refine step i v m₁ news₁ h₂ _ oI ?_ hJ hoff₁ (F₁.set hn₂ hs₂) (N₁.set hs₂)
    rw [List.getElem?_reverse hin]
    simpa using hv
end

theorem TabOk.cut {b1 b2 : List Addr} {h₀ h : Heap} {L P : Addr} {r r2 : List (Addr × Obj)} {l1 c1 l2 c2 : Nat} {q1 q2 : Str} {p1 p2 : Array Value} (N : News h₀ L h r) (hP : (P, tabObj p2) ∈ r) (tb2 : TabOk b2 r2 l2 c2 q2 p2) (tb : TabOk b1 r l1 c1 q1 p1) :
    TabOk b1 (r.filter fun p => p.1 != P) l1 c1 q1 p1 := by
  rcases tb with x | ⟨c', oc, vs, t, e, m, d, q, hb⟩
  · exact .inl x
  · refine .inr ⟨c', oc, vs, t, e, List.mem_filter.mpr ⟨m, ?_⟩, d, q, hb⟩
    by_cases hc : c' = P
    · subst hc
      have e1 := (N _ m).1
      have e2 := (N _ hP).1
      dsimp only at e1 e2
      rw [e1] at e2
      have e3 : oc = tabObj p2 := Option.some.inj e2
      rw [e3] at d
      dsimp only at d
      injection d with d
      subst d
      rcases tb2 with y | ⟨c2', oc2, vs2, t2, e2, _⟩
      · subst y; simp at q
      · subst e2; simp [rawInt] at q
    · simpa using hc
end
-- part W8
section
local macro_rules | `(tactic| walk_at "mine3") => `(tactic| repeat' ((fail_if_success (with_reducible show PostI _ _ _ _ _ _ _ _ _)); (fail_if_success (with_reducible show wpAny _ _ (exec (Stmt.For _ _ _ _ _) _) _ _ _)); (fail_if_success (with_reducible show wpAny _ _ (subscriptTail _ _ (Value.ref _) _) _ _ _)); (fail_if_success (with_reducible show wpAny _ _ (PySem.call (Value.ref _) _ _) _ _ _)); (fail_if_success (with_reducible show wpAny _ _ (PySem.call (Value.builtin "divmod") _ _) _ _ _)); (fail_if_success (with_reducible show wpAny _ _ (PySem.call (Value.builtin "list.append") _ _) _ _ _)); (fail_if_success (with_reducible show wpAny _ _ (PySem.call (Value.builtin "list.reverse") _ _) _ _ _)); (fail_if_success (with_reducible show wpAny _ _ (PySem.call (Value.type "reversed") _ _) _ _ _)); (fail_if_success (with_reducible show wpAny _ _ (binaryOp Operator.LShift _ _) _ _ _)); first | (k_unfold; (try dsimp only)) | (k_end; wrow_close) | walk1 | (dsimp only; walk1) | (leave1; walk_say "STEP leave1"; try dsimp only)))

def nb (b : Int) : Int := (Builtin.Int.intBits b : Int)
def stR (b n r d : Int) : Int := (r * 2 ^ n.toNat + d).fmod b
def rAt (b n : Int) (l : List Int) : Int := l.foldl (stR b n) 0
def remOf (a b : Int) : Int := rAt b (nb b) (digs a (nb b)).reverse
theorem nb_bounds {b : Int} (h0 : 1 ≤ b) (h1 : b ≤ 16) : 1 ≤ nb b ∧ nb b ≤ 5 := by
  have h : ∀ k : Fin 17, 1 ≤ k.val → 1 ≤ nb (k.val : Int) ∧ nb (k.val : Int) ≤ 5 := by decide +kernel
  have := h ⟨b.toNat, by omega⟩ (by dsimp only; omega)
  dsimp only at this
  rwa [show ((b.toNat : Nat) : Int) = b from by omega] at this
theorem digs_length (a n : Int) : (digs a n).length = (numDig a n).toNat := by
  unfold digs; rw [fillD_length, List.length_replicate]
theorem digs_bounds {a n : Int} (ha0 : 1 ≤ a) (ha1 : a ≤ 16) (hn0 : 1 ≤ n) (hn1 : n ≤ 5) : ∀ d ∈ digs a n, 0 ≤ d ∧ d ≤ 31 :=
  small_fin (P := fun a n => ∀ d ∈ digs a n, 0 ≤ d ∧ d ≤ 31) (by decide +kernel) ha0 ha1 hn0 hn1
theorem rAt_bounds {b n : Int} (hb : 1 ≤ b) (l : List Int) : 0 ≤ rAt b n l ∧ rAt b n l < b := by
  rcases List.eq_nil_or_concat l with rfl | ⟨l', d, rfl⟩
  · exact ⟨Int.le_refl _, by show (0:Int) < b; omega⟩
  · simp only [rAt, List.concat_eq_append, List.foldl_append, List.foldl_cons, List.foldl_nil]
    exact ⟨Int.fmod_nonneg_of_pos _ (by omega), Int.fmod_lt_of_pos _ (by omega)⟩
theorem rAt_succ {b n : Int} {l : List Int} {i : Nat} {d : Int} (h : l[i]? = some d) : rAt b n (l.take (i + 1)) = stR b n (rAt b n (l.take i)) d := by
  rw [List.take_add_one, h]; simp [rAt]
theorem pow_small {n : Int} (h0 : 1 ≤ n) (h1 : n ≤ 5) : (0:Int) < 2 ^ n.toNat ∧ (2:Int) ^ n.toNat ≤ 32 := by
  have h : ∀ k : Fin 6, (0:Int) < 2 ^ k.val ∧ (2:Int) ^ k.val ≤ 32 := by decide
  exact h ⟨n.toNat, by omega⟩
theorem ints_at {vs : List Value} {ds : List Int} (h : IntsAre vs ds) : ∀ {i : Nat} {v : Value}, vs[i]? = some v → ∃ d t, ds[i]? = some d ∧ v = .int d t := by
  induction h with
  | nil => intro i v h; cases h
  | cons x t _ ih =>
    intro i v h
    cases i with
    | zero => simp only [List.getElem?_cons_zero] at h; cases h; exact ⟨_, _, rfl, rfl⟩
    | succ i => simp only [List.getElem?_cons_succ] at h ⊢; exact ih h
theorem rem_zero {a b : Int} (ha0 : 1 ≤ a) (ha1 : a ≤ 16) (hb0 : 1 ≤ b) (hb1 : b ≤ a) : (remOf a b = 0) = (a % b = 0) := by
  have h : ∀ p q : Fin 17, 1 ≤ p.val → 1 ≤ q.val → q.val ≤ p.val → (remOf (p.val : Int) (q.val : Int) = 0 ↔ (p.val : Int) % (q.val : Int) = 0) := by decide +kernel
  have := h ⟨a.toNat, by omega⟩ ⟨b.toNat, by omega⟩ (by dsimp only; omega) (by dsimp only; omega) (by dsimp only; omega)
  dsimp only at this
  rw [show ((a.toNat : Nat) : Int) = a from by omega, show ((b.toNat : Nat) : Int) = b from by omega] at this
  exact propext this

theorem cut_off {P : Addr} {r : List (Addr × Obj)} {p : Addr × Obj} (h : p ∈ r.filter fun p => p.1 != P) : p.1 ≠ P := by
  have := (List.mem_filter.mp h).2
  simpa using this
theorem allLt_mem {d : Nat} : ∀ {l : List (Addr × Obj)}, AllLt d l → ∀ p ∈ l, p.1 < d
  | [], _, p, hp => by cases hp
  | q :: r, h, p, hp => by
    rcases List.mem_cons.mp hp with rfl | hp
    · exact h.1
    · exact allLt_mem h.2 p hp

set_option maxHeartbeats 1000000 in
theorem divmod_pos_K : ∀ {w : World} {A₀ A : Around} {base h₀ : Heap} {env : Env} {outer : List Env} {L : Addr} {m mg mb : Str → Option Value} {loose : List Str} {mean : ExcName → Option Value} {rest : List (Addr × Obj)} {p1 p2 : Array Value} {s : Shared} {a b : Int} {ta tb : Tok} {bx : List Addr} {E : Value → Shared → Prop} {Q : Value → Shared → Prop}
    (B : Below A₀ base outer h₀) (F : Fr h₀ L s.heap m) (X : (Mine.hd.heap_39 w.params).In h₀) (N : News h₀ L s.heap ((44, tabObj p1) :: (51, tabObj p2) :: rest)) (T : Top topProg loose mean mg mb h₀)
    (hA : A.frames = some (env :: outer)) (hf : env.frame = some L) (hk : env.scope.kind = .function) (hh : A.handled = none) (hd : A.depth + 30 < recursionLimit) (hu : A.units + 300 < cLine)
    (C1 : CodeHd h₀ 48 44) (C2 : CodeHd h₀ 55 51) (hoff : ∀ p ∈ rest, p.1 ≠ 44 ∧ p.1 ≠ 51) (hbx : ∀ b ∈ bx, ∃ o, (b, o) ∈ rest) (tb1 : TabOk bx rest 51 4 (Str.ofString "_int2digits.<locals>.inner") p1) (tb2 : TabOk bx rest 66 4 (Str.ofString "_digits2int.<locals>.inner") p2)
    (ha0 : 1 ≤ a) (ha1 : a ≤ 16) (hb0 : 1 ≤ b) (hb1 : b ≤ 16)
    (k : ∀ h' tk p1' p2' rest' d q t u, Fr h₀ L h' m → News h₀ L h' ((44, tabObj p1') :: (51, tabObj p2') :: rest') → (∀ p ∈ rest', p.1 ≠ 44 ∧ p.1 ≠ 51) → TabOk bx rest' 51 4 (Str.ofString "_int2digits.<locals>.inner") p1' → TabOk bx rest' 66 4 (Str.ofString "_digits2int.<locals>.inner") p2' →
      (∀ p ∈ rest, p ∈ rest') → (d, { cls := .type "tuple", data := .seq #[.int q t, .int (remOf a b) u] }) ∈ rest' → Q (.ref d) { s with heap := h', toks := tk }),
    wpAny (model PySem.Challenge.rw_hz0002_01.row.prog w) A (call (.ref 63) [.int a ta, .int b tb]) Q E s := by
  k_fill
  intro w A₀ A base h₀ env outer L m mg mb loose mean rest p1 p2 s a b ta tb bx E Q B F X N T hA hf hk hh hd hu C1 C2 hoff hbx tb1 tb2 ha0 ha1 hb0 hb1 k
  obtain ⟨hd', dp, fr, gs, un⟩ := A
  dsimp only at hA hh hd hu
  subst hA hh
  refine wpAny_call ?_
  refine code_def B F X N T rfl hf hk (by k_is) (by k_is) (by dsimp only [recursionLimit] at *; omega) (BindsTo.of_eq rfl) (locs rfl) ?_ rfl rfl rfl (by decide)
  intro g' L' h' FG' F' N' B' X' T'
  dsimp only
  try k_fold
  have C1' : CodeHd g' 48 44 := C1.keeps FG'.keep
  have C2' : CodeHd g' 55 51 := C2.keeps FG'.keep
  clear B F X N T FG' C1 C2
  obtain ⟨n0, n1⟩ := nb_bounds hb0 hb1
  walk_at "mine3"
  rename Fr _ _ _ _ => F1
  rename News _ _ _ _ => N1
  refine int2digits_K B' F1 X' N1 T' rfl rfl rfl rfl (by dsimp only [Around.deeper, recursionLimit] at *; omega) (by dsimp only [Around.deeper]; omega) C1' (fun p hp => ?_) (fun b hb => let ⟨o, ho⟩ := hbx b hb; ⟨o, .tail _ ho⟩) (tb1.mono fun p hp => .tail _ hp) ha0 ha1 n0 n1 fun h2 tk2 ps2 rest2 la vs F2 N2 hoff2 tbx2 hsub2 hla hi2 => ?_
  · rcases List.mem_cons.mp hp with rfl | hp
    · exact neN (by omega)
    · exact (hoff p hp).1
  walk_at "mine3"
  rename Fr _ _ _ _ => F3
  rename News _ _ _ _ => N3
  rename 44 < _ ∧ AllLt _ rest2 => l1
  rename_i lq _ _
  rw [show (Builtin.Int.intBits b : Int) = nb b from rfl] at hi2
  have hnb : (Builtin.Int.intBits b : Int) = nb b := rfl
  have hlq : ∀ p ∈ (44, tabObj ps2) :: rest2, p.1 < lq := by
    intro p hp
    rcases List.mem_cons.mp hp with rfl | hp
    · exact l1.1
    · exact allLt_mem l1.2 p hp
  with_unfolding_all refine' For_turns F3 ?_
  walk_at "mine3"
  rename Fr _ _ _ _ => F4
  rename News _ _ _ _ => N4
  refine krv_reversed F4 N4 (News.isList N4 (.tail _ (.tail _ hla))) fun D h5 F5 N5 lD => ?_
  walk_at "mine3"
  dsimp only
  obtain ⟨rs, hrs⟩ : ∃ rs, rs = (digs a (nb b)).reverse := ⟨_, rfl⟩
  have hlen : vs.length = rs.length := by rw [hrs, List.length_reverse]; exact hi2.length
  have hl0 : rs.length ≤ 5 ∧ 1 ≤ rs.length := by
    have := numDig_bounds ha0 ha1 n0 n1
    rw [hrs, List.length_reverse, digs_length]; omega
  have hrb : ∀ d ∈ rs, 0 ≤ d ∧ d ≤ 31 := by
    rw [hrs]; intro d hd; exact digs_bounds ha0 ha1 n0 n1 d (List.mem_reverse.mp hd)
  have hir : IntsAre vs.reverse rs := by rw [hrs]; exact hi2.reverse
  obtain ⟨pw0, pw1⟩ := pow_small n0 n1
  refine rev_loop rfl (by rfl) (by rfl) F5 N5 (fun p hp => Nat.ne_of_lt (lD p hp)) (.tail _ (.tail _ hla))
    (fun i m n => ∃ vq qs t tn, n = (lq, W.listOf vq.toArray i) :: (44, tabObj ps2) :: rest2 ∧ IntsAre vq qs ∧ qs.length = i ∧ (∀ q ∈ qs, 0 ≤ q ∧ q ≤ 65536) ∧
      m (Str.ofString "r") = some (.int (rAt b (nb b) (rs.take i)) t) ∧ m (Str.ofString "b") = some (.int b tb) ∧ m (Str.ofString "n") = some (.int (nb b) tn) ∧ m (Str.ofString "q_digits") = some (.ref lq))
    ⟨[], [], _, _, rfl, .nil, rfl, fun q hq => (by cases hq), by rfl, by rfl, by rfl, by rfl⟩ ?_ ?_ ?_
  · rintro i m n ⟨vq, qs, t, tn, rfl, _⟩
    exact .tail _ (.tail _ hla)
  · rintro i v m₁ news₁ h₁ tk₁ oI hv ⟨vq, qs, t, tn, rfl, hqi, hql, hqb, hm1, hm2, hm3, hm4⟩ hoff1 F6 N6
    obtain ⟨d, td, hd, rfl⟩ := ints_at hir hv
    have hdb := hrb d (List.mem_of_getElem? hd)
    obtain ⟨r, hr⟩ : ∃ r, r = rAt b (nb b) (rs.take i) := ⟨_, rfl⟩
    obtain ⟨hr0, hr1⟩ := rAt_bounds (n := nb b) hb0 (rs.take i)
    rw [← hr] at hm1 hr0 hr1
    replace F6 : Fr g' L' h₁ _ := known4 (known F6 (x := Str.ofString "a_digit") (v := .int d td) (by rw [if_pos rfl])) (x := Str.ofString "r") (v := .int r t) (y := Str.ofString "b") (u := .int b tb) (z := Str.ofString "n") (r := .int (nb b) tn) (t := Str.ofString "q_digits") (q := .ref lq)
      (by rw [if_neg (by decide), if_neg (by decide)]; exact hm1) (by rw [if_neg (by decide), if_neg (by decide)]; exact hm2) (by rw [if_neg (by decide), if_neg (by decide)]; exact hm3) (by rw [if_neg (by decide), if_neg (by decide)]; exact hm4)
    replace N6 : News g' L' h₁ ((D, oI) :: (lq, W.listOf vq.toArray i) :: (44, tabObj ps2) :: rest2) := N6
    obtain ⟨sh, hsh⟩ : ∃ sh, sh = r * 2 ^ (nb b).toNat := ⟨_, rfl⟩
    have hsh0 : 0 ≤ sh := by rw [hsh]; exact Int.mul_nonneg hr0 (by omega)
    have hsh1 : sh ≤ 1000 := by
      rw [hsh]
      have := Int.mul_le_mul (a := r) (b := 2 ^ (nb b).toNat) (c := 16) (d := 32) (by omega) pw1 (by omega) (by omega)
      omega
    have hi5 : i < rs.length := (List.getElem?_eq_some_iff.mp hd).1
    walk_at "mine3"
    refine lshV (v := sh) (by omega) (by omega) (by omega) hsh.symm ?_
    walk_at "mine3"
    rename Fr _ _ _ _ => F7
    rename News _ _ _ _ => N7
    refine div2n1n_K B' F7 X' N7 T' rfl rfl rfl rfl (by dsimp only [Around.deeper, recursionLimit] at *; omega) (by dsimp only [Around.deeper]; omega) (by omega) (by omega) hb0 hb1 (by omega) fun h8 tk8 T8 t8 u8 F8 N8 l8 => ?_
    walk_at "mine3"
    rename Fr _ _ _ _ => F9
    rename News _ _ _ _ => N9
    have hlT : lq < T8 := l8 (lq, W.listOf vq.toArray i) (by simp)
    have hDl : lq < D := lD (lq, W.listOf #[] 0) (.head _)
    have hqs5 : vq.length = i := by rw [hqi.length, hql]
    refine append_K F9 N9 (.tail (Nat.ne_of_gt hlT) (.tail (Nat.ne_of_gt hDl) (.head fun p hp => Nat.ne_of_lt (hlq p hp)))) (fun h10 F10 N10 => ?_) (by rw [List.size_toArray, hqs5]; exact Nat.le_trans (by omega : i ≤ 5) (by rw [sizeLine_eq]; decide))
    walk_at "mine3"
    rename Fr _ _ _ _ => F11
    rename News _ _ _ _ => N11
    refine PostI.next ?_
    obtain ⟨q, hq⟩ : ∃ q, q = (sh + d).fdiv b := ⟨_, rfl⟩
    rw [← hq] at N11
    refine EndI.intro F11 N11 ((lq, W.listOf (vq ++ [Value.int q t8]).toArray (i + 1)) :: (44, tabObj ps2) :: rest2) (by simp) (fun p hp => ?_) (fun p hp => ?_) ⟨vq ++ [Value.int q t8], qs ++ [q], u8, tn, rfl, hqi.append (.cons _ _ .nil), by simp [hql], fun x hx => ?_, ?_, by rfl, by rfl, by rfl⟩
    · rw [← List.push_toArray] at hp
      simp only [List.mem_cons] at hp ⊢; rcases hp with h | h | h <;> simp [h]
    · rcases List.mem_cons.mp hp with rfl | hp
      · exact Nat.ne_of_lt hDl
      · exact Nat.ne_of_lt (Nat.lt_trans (hlq p hp) hDl)
    · rcases List.mem_append.mp hx with hx | hx
      · exact hqb x hx
      · rw [List.mem_singleton.mp hx, hq]
        refine ⟨Int.fdiv_nonneg (by omega) (by omega), ?_⟩
        have h1 : (sh + d).fdiv b ≤ sh + d := by
          rw [Int.fdiv_eq_ediv_of_nonneg _ (by omega)]
          exact Int.ediv_le_self _ (by omega)
        omega
    · rw [rAt_succ hd, stR, ← hr, ← hsh]; rfl
  · rintro h' tk' m' news' F6 N6 ⟨vq, qs, t, tn, rfl, hqi, hql, hqb, hm1, hm2, hm3, hm4⟩
    replace F6 : Fr g' L' h' _ := known3 F6 hm1 hm3 hm4
    replace N6 : News g' L' h' ((lq, W.listOf vq.toArray vs.length) :: (44, tabObj ps2) :: rest2) := N6
    walk_at "mine3"
    dsimp only
    refine reverse_head_ints F6 N6 (fun p hp => Nat.ne_of_lt (hlq p hp)) (by rw [List.toList_toArray]; exact hqi) (fun h7 F7 N7 hi7 => ?_) (by rw [sizeLine_eq, hql, hlen]; exact Nat.le_trans (by omega : rs.length ≤ 5) (by decide))
    rw [List.toList_toArray] at N7 hi7
    obtain ⟨vr, hvr⟩ : ∃ vr, vr = vq.reverse := ⟨_, rfl⟩
    rw [← hvr] at N7 hi7
    have h51 : (51, tabObj p2) ∈ rest2 := hsub2 _ (.head _)
    have N2' : News g' L' h7 rest2 := fun p hp => N7 p (.tail _ (.tail _ hp))
    have tb2' : TabOk bx rest2 66 4 (Str.ofString "_digits2int.<locals>.inner") p2 := tb2.mono fun p hp => hsub2 p (.tail _ hp)
    obtain ⟨R1, hR1⟩ : ∃ R1, R1 = rest2.filter (fun p => p.1 != 51) := ⟨_, rfl⟩
    have tb2c : TabOk bx R1 66 4 (Str.ofString "_digits2int.<locals>.inner") p2 := by rw [hR1]; exact TabOk.cut N2' h51 tb2' tb2'
    have tb1c : TabOk bx R1 51 4 (Str.ofString "_int2digits.<locals>.inner") ps2 := by rw [hR1]; exact TabOk.cut N2' h51 tb2' tbx2
    have R1sub : ∀ p ∈ R1, p ∈ rest2 := fun p hp => (List.mem_filter.mp (hR1 ▸ hp)).1
    have R1off : ∀ p ∈ R1, p.1 ≠ 51 := fun p hp => cut_off (hR1 ▸ hp)
    have R1has : ∀ p ∈ rest, p ∈ R1 := fun p hp => by rw [hR1]; exact List.mem_filter.mpr ⟨hsub2 p (.tail _ hp), bne_iff_ne.mpr (hoff p hp).2⟩
    have h51lq : (51 : Nat) < lq := hlq (51, tabObj p2) (.tail _ h51)
    have h44lq : (44 : Nat) < lq := hlq (44, tabObj ps2) (.head _)
    replace N7 : News g' L' h7 ((51, tabObj p2) :: (lq, W.listOf vr.toArray vs.length) :: (44, tabObj ps2) :: R1) := fun p hp => N7 p (by
      simp only [List.mem_cons] at hp ⊢
      rcases hp with rfl | h | h | h
      · exact .inr (.inr h51)
      · simp [h]
      · simp [h]
      · simp [R1sub p h])
    clear N6 F6
    walk_at "mine3"
    rename Fr _ _ _ _ => F8
    rename News _ _ _ _ => N8
    refine digits2int_K B' F8 X' N8 T' rfl rfl rfl rfl (by dsimp only [Around.deeper, recursionLimit] at *; omega) (by dsimp only [Around.deeper]; omega) C2' (fun p hp => ?_) (fun b hb => let ⟨o, ho⟩ := hbx b hb; ⟨o, .tail _ (.tail _ (R1has _ ho))⟩) (tb2c.mono fun p hp => .tail _ (.tail _ hp)) (.head _) hi7 (by rw [List.length_reverse]; omega) (by rw [List.length_reverse]; omega) (fun d hd => hqb d (List.mem_reverse.mp hd)) n0 n1 fun h9 tk9 p2' rest3 v9 t9 F9 N9 hoff9 tb9 hsub9 => ?_
    · rcases List.mem_cons.mp hp with rfl | hp
      · exact Nat.ne_of_gt h51lq
      · rcases List.mem_cons.mp hp with rfl | hp
        · exact neN (by omega)
        · exact R1off p hp
    walk_at "mine3"
    dsimp only
    rename Fr _ _ _ _ => F10
    rename News _ _ _ _ => N10
    rename 51 < _ ∧ AllLt _ rest3 => l10
    obtain ⟨R3, hR3⟩ : ∃ R3, R3 = rest3.filter (fun p => p.1 != 44) := ⟨_, rfl⟩
    have h44 : (44, tabObj ps2) ∈ rest3 := hsub9 _ (.tail _ (.head _))
    have N3' : News g' L' _ rest3 := fun p hp => N10 p (.tail _ (.tail _ hp))
    have R1s3 : ∀ p ∈ R1, p ∈ rest3 := fun p hp => hsub9 p (.tail _ (.tail _ hp))
    have tb1d : TabOk bx R3 51 4 (Str.ofString "_int2digits.<locals>.inner") ps2 := by rw [hR3]; exact TabOk.cut N3' h44 (tb1c.mono R1s3) (tb1c.mono R1s3)
    have tb2d : TabOk bx R3 66 4 (Str.ofString "_digits2int.<locals>.inner") p2' := by rw [hR3]; exact TabOk.cut N3' h44 (tb1c.mono R1s3) tb9
    have R3sub : ∀ p ∈ R3, p ∈ rest3 := fun p hp => (List.mem_filter.mp (hR3 ▸ hp)).1
    have R3off : ∀ p ∈ R3, p.1 ≠ 44 := fun p hp => cut_off (hR3 ▸ hp)
    have R3has : ∀ p ∈ rest, p ∈ R3 := fun p hp => by rw [hR3]; exact List.mem_filter.mpr ⟨R1s3 p (R1has p hp), bne_iff_ne.mpr (hoff p hp).1⟩
    (try k_unfold)
    have lt44 := allLt_mem l10.2 _ h44
    rename_i D3 _
    have hrem : remOf a b = rAt b (nb b) (rs.take vs.length) := by rw [hlen, List.take_length, hrs]; rfl
    rw [← hrem] at N10
    refine leaveK_ F10 N10 fun kF kN => k _ _ ps2 p2' ((D3, { cls := .type "tuple", data := .seq #[.int v9 t9, .int (remOf a b) t] }) :: R3) D3 v9 t9 t kF (fun p hp => kN p ?_) (fun p hp => ?_) (tb1d.mono fun p hp => .tail _ hp) (tb2d.mono fun p hp => .tail _ hp) (fun p hp => .tail _ (R3has p hp)) ?_
    rotate_left
    · rcases List.mem_cons.mp hp with rfl | hp
      · exact ⟨Nat.ne_of_gt lt44, Nat.ne_of_gt l10.1⟩
      · exact ⟨R3off p hp, hoff9 p (R3sub p hp)⟩
    · exact .head _
    · simp only [List.mem_cons] at hp ⊢
      rcases hp with rfl | rfl | rfl | h
      · exact .inr (.inr h44)
      · simp
      · simp
      · simp [R3sub p h]
end
-- part W9
section
local macro_rules | `(tactic| walk_at "mine4") => `(tactic| repeat' ((fail_if_success (with_reducible show PostI _ _ _ _ _ _ _ _ _)); (fail_if_success (with_reducible show wpAny _ _ (exec (Stmt.For _ _ _ _ _) _) _ _ _)); (fail_if_success (with_reducible show wpAny _ _ (subscriptTail _ _ (Value.ref _) _) _ _ _)); (fail_if_success (with_reducible show wpAny _ _ (PySem.call (Value.ref _) _ _) _ _ _)); (fail_if_success (with_reducible show wpAny _ _ (eval (Expr.ListComp _ _ _) _) _ _ _)); first | (k_unfold; (try dsimp only)) | (k_end; wrow_close) | walk1 | (dsimp only; walk1) | (leave1; walk_say "STEP leave1"; try dsimp only)))

set_option maxHeartbeats 1000000 in
theorem int_divmod_K : ∀ {w : World} {A₀ A : Around} {base h₀ : Heap} {env : Env} {outer : List Env} {L : Addr} {m mg mb : Str → Option Value} {loose : List Str} {mean : ExcName → Option Value} {rest : List (Addr × Obj)} {p1 p2 : Array Value} {s : Shared} {a b : Int} {ta tb : Tok} {bx : List Addr} {E : Value → Shared → Prop} {Q : Value → Shared → Prop}
    (B : Below A₀ base outer h₀) (F : Fr h₀ L s.heap m) (X : (Mine.hd.heap_39 w.params).In h₀) (N : News h₀ L s.heap ((44, tabObj p1) :: (51, tabObj p2) :: rest)) (T : Top topProg loose mean mg mb h₀)
    (hA : A.frames = some (env :: outer)) (hf : env.frame = some L) (hk : env.scope.kind = .function) (hh : A.handled = none) (hd : A.depth + 40 < recursionLimit) (hu : A.units + 400 < cLine)
    (C1 : CodeHd h₀ 48 44) (C2 : CodeHd h₀ 55 51) (hoff : ∀ p ∈ rest, p.1 ≠ 44 ∧ p.1 ≠ 51) (hbx : ∀ b ∈ bx, ∃ o, (b, o) ∈ rest) (tb1 : TabOk bx rest 51 4 (Str.ofString "_int2digits.<locals>.inner") p1) (tb2 : TabOk bx rest 66 4 (Str.ofString "_digits2int.<locals>.inner") p2)
    (ha0 : 1 ≤ a) (ha1 : a ≤ 16) (hb0 : 1 ≤ b) (hb1 : b ≤ 16)
    (k : ∀ h' tk p1' p2' rest' d q t u, Fr h₀ L h' m → News h₀ L h' ((44, tabObj p1') :: (51, tabObj p2') :: rest') → (∀ p ∈ rest', p.1 ≠ 44 ∧ p.1 ≠ 51) → TabOk bx rest' 51 4 (Str.ofString "_int2digits.<locals>.inner") p1' → TabOk bx rest' 66 4 (Str.ofString "_digits2int.<locals>.inner") p2' →
      (∀ p ∈ rest, p ∈ rest') → (d, { cls := .type "tuple", data := .seq #[.int q t, .int (remOf a b) u] }) ∈ rest' → Q (.ref d) { s with heap := h', toks := tk }),
    wpAny (model PySem.Challenge.rw_hz0002_01.row.prog w) A (call (.ref 70) [.int a ta, .int b tb]) Q E s := by
  k_fill
  intro w A₀ A base h₀ env outer L m mg mb loose mean rest p1 p2 s a b ta tb bx E Q B F X N T hA hf hk hh hd hu C1 C2 hoff hbx tb1 tb2 ha0 ha1 hb0 hb1 k
  obtain ⟨hd', dp, fr, gs, un⟩ := A
  dsimp only at hA hh hd hu
  subst hA hh
  refine wpAny_call ?_
  refine code_def B F X N T rfl hf hk (by k_is) (by k_is) (by dsimp only [recursionLimit] at *; omega) (BindsTo.of_eq rfl) (locs rfl) ?_ rfl rfl rfl (by decide)
  intro g' L' h' FG' F' N' B' X' T'
  dsimp only
  try k_fold
  have C1' : CodeHd g' 48 44 := C1.keeps FG'.keep
  have C2' : CodeHd g' 55 51 := C2.keeps FG'.keep
  clear B F X N T FG' C1 C2
  walk_at "mine4"
  · exfalso; omega
  rename Fr _ _ _ _ => F1
  rename News _ _ _ _ => N1
  refine divmod_pos_K B' F1 X' N1 T' rfl rfl rfl rfl (by dsimp only [Around.deeper, recursionLimit] at *; omega) (by dsimp only [Around.deeper]; omega) C1' C2' hoff hbx tb1 tb2 ha0 ha1 hb0 hb1 fun h2 tk2 p1' p2' rest' d q t u F2 N2 hoff2 tb1' tb2' hsub hm => ?_
  walk_at "mine4"
  (try dsimp only)
  (try k_unfold)
  exact leaveK_ F2 N2 fun kF kN => k _ _ p1' p2' rest' d q t u kF kN hoff2 tb1' tb2' hsub hm
end
-- part W10
section
local macro_rules | `(tactic| walk_at "mine5") => `(tactic| repeat' ((fail_if_success (with_reducible show PostI _ _ _ _ _ _ _ _ _)); (fail_if_success (with_reducible show wpAny _ _ (exec (Stmt.For _ _ _ _ _) _) _ _ _)); (fail_if_success (with_reducible show wpAny _ _ (subscriptTail _ _ (Value.ref _) _) _ _ _)); (fail_if_success (with_reducible show wpAny _ _ (PySem.call (Value.ref _) _ _) _ _ _)); (fail_if_success (with_reducible show wpAny _ _ (eval (Expr.Name _ _) (compEnvC _ _ _ _)) _ _ _)); (fail_if_success (with_reducible show LCt.CompSrcT _ _ _ _ _ _ _ _ _ _ _ _ _ _ _)); (fail_if_success (with_reducible show wpAny _ _ (eval (Expr.ListComp _ _ _ _) _) _ _ _)); first | (k_unfold; (try dsimp only)) | (k_end; wrow_close) | walk1 | (dsimp only; walk1) | (leave1; walk_say "STEP leave1"; try dsimp only)))

def partsTo (a : Int) (i : Nat) : List Int := ((List.range i).map fun (j : Nat) => (1 : Int) + (j : Int)).filter fun b => decide (a % b = 0)
theorem partsTo_succ (a : Int) (i : Nat) : partsTo a (i + 1) = if a % (1 + (i : Int)) = 0 then partsTo a i ++ [1 + (i : Int)] else partsTo a i := by
  by_cases h : a % (1 + (i : Int)) = 0 <;> simp [partsTo, List.range_succ, h]
def partsOf (a : Int) : List Int := partsTo a a.toNat

set_option maxHeartbeats 1000000 in
theorem law_into_K : ∀ {w : World} {A₀ A : Around} {base h₀ : Heap} {env : Env} {outer : List Env} {L : Addr} {m mg mb : Str → Option Value} {loose : List Str} {mean : ExcName → Option Value} {rest : List (Addr × Obj)} {p1 p2 : Array Value} {s : Shared} {a : Int} {ta : Tok} {bx : List Addr} {E : Value → Shared → Prop} {Q : Value → Shared → Prop}
    (B : Below A₀ base outer h₀) (F : Fr h₀ L s.heap m) (X : (Mine.hd.heap_39 w.params).In h₀) (N : News h₀ L s.heap ((44, tabObj p1) :: (51, tabObj p2) :: rest)) (T : Top topProg loose mean mg mb h₀)
    (hA : A.frames = some (env :: outer)) (hf : env.frame = some L) (hk : env.scope.kind = .function) (hh : A.handled = none) (hd : A.depth + 50 < recursionLimit) (hu : A.units + 500 < cLine)
    (C1 : CodeHd h₀ 48 44) (C2 : CodeHd h₀ 55 51) (hoff : ∀ p ∈ rest, p.1 ≠ 44 ∧ p.1 ≠ 51) (hbx : ∀ b ∈ bx, ∃ o, (b, o) ∈ rest) (tb1 : TabOk bx rest 51 4 (Str.ofString "_int2digits.<locals>.inner") p1) (tb2 : TabOk bx rest 66 4 (Str.ofString "_digits2int.<locals>.inner") p2)
    (ha0 : 1 ≤ a) (ha1 : a ≤ 16)
    (k : ∀ h' tk p1' p2' rest' la vs e, Fr h₀ L h' m → News h₀ L h' ((44, tabObj p1') :: (51, tabObj p2') :: rest') → (∀ p ∈ rest', p.1 ≠ 44 ∧ p.1 ≠ 51) → TabOk bx rest' 51 4 (Str.ofString "_int2digits.<locals>.inner") p1' → TabOk bx rest' 66 4 (Str.ofString "_digits2int.<locals>.inner") p2' →
      (∀ p ∈ rest, p ∈ rest') → (la, W.listOf vs.toArray e) ∈ rest' → IntsAre vs (partsOf a) → Q (.ref la) { s with heap := h', toks := tk }),
    wpAny (model PySem.Challenge.rw_hz0002_01.row.prog w) A (call (.ref 89) [.int a ta]) Q E s := by
  k_fill
  intro w A₀ A base h₀ env outer L m mg mb loose mean rest p1 p2 s a ta bx E Q B F X N T hA hf hk hh hd hu C1 C2 hoff hbx tb1 tb2 ha0 ha1 k
  obtain ⟨hd', dp, fr, gs, un⟩ := A
  dsimp only at hA hh hd hu
  subst hA hh
  refine wpAny_call ?_
  refine code_defC B F X N T rfl hf hk (by k_is) (by k_is) (by dsimp only [recursionLimit] at *; omega) (BindsTo.of_eq rfl) (by exact rfl) (by decide +kernel) ?_ rfl rfl rfl
  intro g' L' h' tk' cells' FG' F' N' Y' B' X' T' l1
  dsimp only
  obtain ⟨oi, hE, di⟩ := CellsAre.one Y'
  subst hE
  simp only [List.cons_append, List.nil_append] at N'
  try k_fold
  have C1' : CodeHd g' 48 44 := C1.keeps FG'.keep
  have C2' : CodeHd g' 55 51 := C2.keeps FG'.keep
  clear B F X N T FG' C1 C2
  replace di : oi.data = .cell (some (.int a ta)) := di
  walk_at "mine5"
  refine LCt.ListComp_T (F₀ := F') (by with_unfolding_all rfl) (by decide) (by rfl) (by decide) (by rfl) ?_
  walk_at "mine5"
  rename Fr _ _ _ _ => F1
  rename News _ _ _ _ => N1
  rename IsRange _ _ _ _ _ _ _ _ => rg
  have hL1 : ∀ p ∈ (44, tabObj p1) :: (51, tabObj p2) :: rest, p.1 < L' := l1
  have h44L := hL1 (44, tabObj p1) (.head _)
  have h51L := hL1 (51, tabObj p2) (.tail _ (.head _))
  dsimp only at h44L h51L
  replace h44L := ltN h44L
  replace h51L := ltN h51L
  have N1' : News g' L' _ ((44, tabObj p1) :: (51, tabObj p2) :: (L' + 1, oi) :: rest) := fun p hp => N1 p (by
    simp only [List.mem_cons] at hp ⊢; rcases hp with h | h | h | h <;> simp [h])
  refine LCt.CompSrcT.range (n := a.toNat) rfl F1 N1' rg (small_one (by omega) (by omega) (by omega) (by omega)) (by rw [rangeSize_nat]; omega) (by rw [sizeLine_eq]; exact Nat.le_trans (by omega : a.toNat ≤ 16) (by decide)) fun g2 => ?_
  obtain ⟨J, hJ⟩ : ∃ J : Nat → List Value → List (Addr × Obj) → Prop, J = fun i ys news => ∃ q1 q2 r, news = (44, tabObj q1) :: (51, tabObj q2) :: r ∧ IntsAre ys (partsTo a i) ∧ (∀ p ∈ r, p.1 ≠ 44 ∧ p.1 ≠ 51) ∧ TabOk bx r 51 4 (Str.ofString "_int2digits.<locals>.inner") q1 ∧ TabOk bx r 66 4 (Str.ofString "_digits2int.<locals>.inner") q2 ∧ (∀ p ∈ rest, p ∈ r) ∧ (L' + 1, oi) ∈ r := ⟨_, rfl⟩
  refine compT_ind J ?_ ?_ ?_
  · rw [hJ]
    rintro i ys news hi ⟨q1, q2, r, rfl, hys, offr, tb1r, tb2r, hsub, hmc⟩ v I oI C oC D m₂ h tk E' ⟨t, rfl⟩ hC hx F N off ne
    obtain ⟨b, hb⟩ : ∃ b, b = 1 + (i : Int) := ⟨_, rfl⟩
    rw [← hb] at hx
    have off3 := off.mem
    have N4 : News g' L' h ((44, tabObj q1) :: (51, tabObj q2) :: (I, oI) :: (C, oC) :: (D, LCg.lst ys) :: r) := fun p hp => N p (by
      simp only [List.mem_cons] at hp ⊢; rcases hp with h | h | h | h | h | h <;> simp [h])
    clear F1 N1 N1' N
    walk_at "mine5"
    refine LCgL.ld_global F X' T' (by with_unfolding_all rfl) ?_
    walk_at "mine5"
    refine kcf_cell N4 (by rfl) (.tail _ (.tail _ (.tail _ (.tail _ (.tail _ hmc))))) di ?_
    walk_at "mine5"
    refine LCgL.ld_own N4 (.tail _ (.tail _ (.tail _ (.head _)))) hC hx ?_
    walk_at "mine5"
    have hbx4 : ∀ x ∈ I :: bx, ∃ o, (x, o) ∈ (I, oI) :: (C, oC) :: (D, LCg.lst ys) :: r := by
      intro x hx
      rcases List.mem_cons.mp hx with rfl | hx
      · exact ⟨oI, .head _⟩
      · obtain ⟨o, ho⟩ := hbx x hx
        exact ⟨o, .tail _ (.tail _ (.tail _ (hsub _ ho)))⟩
    have hoff4 : ∀ p ∈ (I, oI) :: (C, oC) :: (D, LCg.lst ys) :: r, p.1 ≠ 44 ∧ p.1 ≠ 51 := by
      intro p hp
      have h44 := off3 (44, tabObj q1) (.head _)
      have h51 := off3 (51, tabObj q2) (.tail _ (.head _))
      simp only [List.mem_cons] at hp
      rcases hp with rfl | rfl | rfl | hp
      · exact ⟨fun e => h44.1 e.symm, fun e => h51.1 e.symm⟩
      · exact ⟨fun e => h44.2.1 e.symm, fun e => h51.2.1 e.symm⟩
      · exact ⟨fun e => h44.2.2 e.symm, fun e => h51.2.2 e.symm⟩
      · exact offr p hp
    have reI : ∀ b ∈ I :: bx, b ∈ bx ∨ ∀ p ∈ r, p.1 ≠ b := by
      intro b hb
      rcases List.mem_cons.mp hb with rfl | hb
      · exact .inr fun p hp => (off3 p (.tail _ (.tail _ hp))).1
      · exact .inl hb
    have hb1 : 1 ≤ b := by omega
    have hb2 : b ≤ a := by omega
    refine int_divmod_K (bx := I :: bx) B' F X' N4 T' rfl rfl rfl rfl (by dsimp only [Around.deeper, recursionLimit] at *; omega) (by dsimp only [Around.deeper]; omega) C1' C2' hoff4 hbx4 ((tb1r.re reI).mono fun p hp => .tail _ (.tail _ (.tail _ hp))) ((tb2r.re reI).mono fun p hp => .tail _ (.tail _ (.tail _ hp))) ha0 ha1 hb1 (by omega) fun h5 tk5 q1' q2' r5 d q t5 u5 F5 N5 hoff5 tb15 tb25 hsub5 hd5 => ?_
    walk_at "mine5"
    have N6 : News g' L' h5 r5 := fun p hp => N5 p (.tail _ (.tail _ hp))
    have mI : (I, oI) ∈ r5 := hsub5 _ (.head _)
    have mC : (C, oC) ∈ r5 := hsub5 _ (.tail _ (.head _))
    have mD : (D, LCg.lst ys) ∈ r5 := hsub5 _ (.tail _ (.tail _ (.head _)))
    have hold : ∀ p ∈ r, p ∈ outOf I C D r5 := fun p hp => mem_outOf.mpr ⟨hsub5 _ (.tail _ (.tail _ (.tail _ hp))), off3 p (.tail _ (.tail _ hp))⟩
    have hall : ∀ p ∈ (I, oI) :: (C, oC) :: (D, LCg.lst ys) :: (44, tabObj q1') :: (51, tabObj q2') :: outOf I C D r5, p ∈ (44, tabObj q1') :: (51, tabObj q2') :: r5 := by
      intro p hp
      simp only [List.mem_cons] at hp ⊢
      rcases hp with rfl | rfl | rfl | h | h | h
      · exact .inr (.inr mI)
      · exact .inr (.inr mC)
      · exact .inr (.inr mD)
      · simp [h]
      · simp [h]
      · exact .inr (.inr (mem_outOf.mp h).1)
    have hoffs : ∀ p ∈ (44, tabObj q1') :: (51, tabObj q2') :: outOf I C D r5, p.1 ≠ I ∧ p.1 ≠ C ∧ p.1 ≠ D := by
      intro p hp
      simp only [List.mem_cons] at hp
      rcases hp with rfl | rfl | h
      · exact off3 (44, tabObj q1) (.head _)
      · exact off3 (51, tabObj q2) (.tail _ (.head _))
      · exact (mem_outOf.mp h).2
    have hT : IsTup h5 d #[.int q t5, .int (remOf a b) u5] := ⟨_, N5.get (.tail _ (.tail _ hd5)), rfl, _, rfl⟩
    refine item_tupleT hT (j := 1) (by decide) (by decide) (by rfl) (by rfl) ?_
    walk_at "mine5"
    · refine LCgL.ld_own N5 (.tail _ (.tail _ (hsub5 _ (.tail _ (.head _))))) hC hx ?_
      walk_at "mine5"
      have hrem : remOf a b = 0 := by assumption
      refine LCg.CompEnd.intro F5 N5 ((44, tabObj q1') :: (51, tabObj q2') :: outOf I C D r5) (fun p hp => ?_) (LCg.Off3.of fun p hp => ?_) trivial ⟨q1', q2', outOf I C D r5, rfl, ?_, fun p hp => hoff5 p (mem_outOf.mp hp).1, TabOk.out N6 mC hC mD tb15, TabOk.out N6 mC hC mD tb25, fun p hp => hold p (hsub p hp), hold _ hmc⟩
      · exact hall p hp
      · exact hoffs p hp
      · rw [partsTo_succ, ← hb, if_pos (by rw [← rem_zero ha0 ha1 hb1 hb2]; exact hrem)]
        exact hys.append (.cons b t .nil)
    · have hrem : ¬ remOf a b = 0 := by assumption
      refine LCg.CompEnd.intro F5 N5 ((44, tabObj q1') :: (51, tabObj q2') :: outOf I C D r5) (fun p hp => ?_) (LCg.Off3.of fun p hp => ?_) trivial ⟨q1', q2', outOf I C D r5, rfl, ?_, fun p hp => hoff5 p (mem_outOf.mp hp).1, TabOk.out N6 mC hC mD tb15, TabOk.out N6 mC hC mD tb25, fun p hp => hold p (hsub p hp), hold _ hmc⟩
      · exact hall p hp
      · exact hoffs p hp
      · rw [partsTo_succ, ← hb, if_neg (by rw [← rem_zero ha0 ha1 hb1 hb2]; exact hrem)]
        exact hys
  · rw [hJ]
    rintro ys news ⟨q1, q2, r, rfl, hys, offr, tb1r, tb2r, hsub, hmc⟩ D h tk F N off
    have N7 : News g' L' h ((44, tabObj q1) :: (51, tabObj q2) :: (D, LCg.lst ys) :: r) := fun p hp => N p (by
      simp only [List.mem_cons] at hp ⊢; rcases hp with h | h | h | h <;> simp [h])
    clear N1 N1' N
    (try dsimp only)
    walk_at "mine5"
    (try dsimp only)
    (try k_unfold)
    refine leaveK_ F N7 fun kF kN => k _ _ q1 q2 ((D, LCg.lst ys) :: r) D ys ys.length kF kN (fun p hp => ?_) (tb1r.mono fun p hp => .tail _ hp) (tb2r.mono fun p hp => .tail _ hp) (fun p hp => .tail _ (hsub p hp)) (.head _) hys
    rcases List.mem_cons.mp hp with rfl | hp
    · exact ⟨fun e => off.1 e.symm, fun e => off.2.1 e.symm⟩
    · exact offr p hp
  · rw [hJ]
    refine ⟨p1, p2, (L' + 1, oi) :: rest, rfl, .nil, ?_, tb1.mono fun p hp => .tail _ hp, tb2.mono fun p hp => .tail _ hp, fun p hp => .tail _ hp, .head _⟩
    intro p hp
    rcases List.mem_cons.mp hp with rfl | hp
    · exact ⟨neN (by omega), neN (by omega)⟩
    · exact hoff p hp
end
-- part MH
section
/-! a comprehension of two for-clauses, the second with one test -/
abbrev comp2 (elt t1 i1 t2 i2 ct : Expr) (scope : Scope) (pos : Pos) : Expr := .ListComp elt [⟨t1, i1, [], 0⟩, ⟨t2, i2, [ct], 0⟩] scope pos
section
variable {elt t1 i1 t2 i2 ct : Expr} {scope : Scope} {pos : Pos} {it acc : Value} {env : Env}
theorem turn_out : compTurn (comp2 elt t1 i1 t2 i2 ct scope pos) 0 it acc env = (standAt i1.pos >>= fun _ => pyNext it >>= fun r => match r with
    | none => pure (.done .next)
    | some v => letOwnedTupleGo t1 it v >>= fun _ => assign t1 env v >>= fun _ =>
        (eval i2 env >>= fun x => standAt i2.pos >>= fun _ => foldedSetIterable i2 env x >>= fun x => holding [x] (pyIter x) >>= fun it2 => runOwn (.compStart (comp2 elt t1 i1 t2 i2 ct scope pos) 1 it2 acc env) env >>= fun _ =>
          again (.compLoop (comp2 elt t1 i1 t2 i2 ct scope pos) 0 it acc env))) := by rfl
theorem turn_in : compTurn (comp2 elt t1 i1 t2 i2 ct scope pos) 1 it acc env = (do
      standAt i2.pos
      match ← pyNext it with
      | none => pure (.done .next)
      | some v =>
        letOwnedTupleGo t2 it v
        assign t2 env v
        let mut ok := true
        for c in [ct] do
          if ok then ok ← isTrue c env (eval c env)
        if ok then
          (do let _ ← call (.builtin "list.append") [acc, ← eval elt env])
        again (.compLoop (comp2 elt t1 i1 t2 i2 ct scope pos) 1 it acc env)) := by rfl
variable {prog : Program} {w : World} {A : Around} {E : Value → Shared → Prop} {R : Result → Shared → Prop} {s : Shared}
theorem code_in (I : Nat → Shared → Prop)
    (turn : ∀ n s, I n s → wpAny (model prog w) A (pyNext it) (fun r s₁ => match r with
      | none => R (.ok .next) s₁
      | some v => wpAny (model prog w) A (assign t2 env v) (fun _ s₂ =>
          wpAny (model prog w) A (isTrue ct env (eval ct env)) (fun ok s₃ =>
            if ok = true then wpAny (model prog w) A (eval elt env) (fun x s₄ =>
              wpAny (model prog w) A (call (.builtin "list.append") [acc, x]) (fun _ s₅ => ∃ m, m < n ∧ I m s₅) (notedBy (model prog w) A env fun e s' => R (.error e) s') s₄) (notedBy (model prog w) A env fun e s' => R (.error e) s') s₃
            else ∃ m, m < n ∧ I m s₃) (notedBy (model prog w) A env fun e s' => R (.error e) s') s₂) (notedBy (model prog w) A env fun e s' => R (.error e) s') s₁) (notedBy (model prog w) A env fun e s' => R (.error e) s') s)
    (n : Nat) (h : I n s) (ht : ∀ v, letOwnedTupleGo t2 it v = pure ()) :
    codeAny (model prog w) A (.compLoop (comp2 elt t1 i1 t2 i2 ct scope pos) 1 it acc env) R s := by
  refine codeAny_loop rfl I (fun n s hI => ?_) n h
  show wpAny _ A ((compTurn (comp2 elt t1 i1 t2 i2 ct scope pos) 1 it acc env).onRaise (fun x => do noteFrame x env; theTreesLotGoes x)) _ _ s
  refine wpAny_noted ?_
  rw [turn_in]
  refine wpAny_bind (wpAny_standAt (wpAny_bind (wpAny_mono (turn n s hI) (fun r s₁ h₁ => ?_) fun _ _ h' => h')))
  cases r with
  | none => exact wpAny_pure h₁
  | some v =>
    refine wpAny_bind (wpAny_of_eq (ht v) ?_)
    refine wpAny_bind (wpAny_mono h₁ (fun _ s₂ h₂ => wpAny_bind (wpAny_mono (wpAny_tests_one h₂) (fun ok s₃ h₃ => ?_) fun _ _ h' => h')) fun _ _ h' => h')
    cases ok with
    | false => exact wpAny_pure ⟨rfl, h₃⟩
    | true =>
      exact wpAny_bind (wpAny_bind (wpAny_mono h₃ (fun x s₄ h₄ => wpAny_bind (wpAny_mono h₄ (fun _ s₅ h₅ => wpAny_pure (wpAny_pure ⟨rfl, h₅⟩)) fun _ _ h' => h')) fun _ _ h' => h'))

theorem code_out (I : Nat → Shared → Prop)
    (turn : ∀ n s, I n s → wpAny (model prog w) A (pyNext it) (fun r s₁ => match r with
      | none => R (.ok .next) s₁
      | some v => wpAny (model prog w) A (assign t1 env v) (fun _ s₂ =>
          wpAny (model prog w) A (eval i2 env) (fun x s₃ => wpAny (model prog w) A (pyIter x) (fun it2 s₄ =>
            codeAny (model prog w) (A.mark none) (.compStart (comp2 elt t1 i1 t2 i2 ct scope pos) 1 it2 acc env) (fun r s₅ => match r with | .ok _ => ∃ m, m < n ∧ I m s₅ | .error e => cameBackBy (model prog w) A env (notedBy (model prog w) A env fun e s' => R (.error e) s') e s₅) s₄)
            (notedBy (model prog w) A env fun e s' => R (.error e) s') s₃)
          (notedBy (model prog w) A env fun e s' => R (.error e) s') s₂) (notedBy (model prog w) A env fun e s' => R (.error e) s') s₁) (notedBy (model prog w) A env fun e s' => R (.error e) s') s)
    (n : Nat) (h : I n s) (ht : ∀ v, letOwnedTupleGo t1 it v = pure ()) (hs : ∀ x, foldedSetIterable i2 env x = pure x) :
    codeAny (model prog w) A (.compLoop (comp2 elt t1 i1 t2 i2 ct scope pos) 0 it acc env) R s := by
  refine codeAny_loop rfl I (fun n s hI => ?_) n h
  show wpAny _ A ((compTurn (comp2 elt t1 i1 t2 i2 ct scope pos) 0 it acc env).onRaise (fun x => do noteFrame x env; theTreesLotGoes x)) _ _ s
  refine wpAny_noted ?_
  rw [turn_out]
  refine wpAny_bind (wpAny_standAt (wpAny_bind (wpAny_mono (turn n s hI) (fun r s₁ h₁ => ?_) fun _ _ h' => h')))
  cases r with
  | none => exact wpAny_pure h₁
  | some v =>
    refine wpAny_bind (wpAny_of_eq (ht v) ?_)
    refine wpAny_bind (wpAny_mono h₁ (fun _ s₂ h₂ => ?_) fun _ _ h' => h')
    refine wpAny_bind (wpAny_mono h₂ (fun x s₃ h₃ => wpAny_bind (wpAny_standAt ?_)) fun _ _ h' => h')
    refine wpAny_bind (wpAny_of_eq (hs x) ?_)
    refine wpAny_bind (wpAny_holding (wpAny_mono h₃ (fun it2 s₄ h₄ => ?_) fun _ _ h' => h'))
    refine wpAny_bind (wpAny_runOwn (codeAny_mono h₄ fun r s₅ h₅ => ?_))
    cases r with
    | ok f => exact wpAny_pure ⟨rfl, h₅⟩
    | error e => exact h₅

theorem start_in
    (h0 : codeAny (model prog w) A (.compLoop (comp2 elt t1 i1 t2 i2 ct scope pos) 1 it acc env) R s)
    (h : wpAny (model prog w) A (pyIter it) (fun it' s' => codeAny (model prog w) A (.compLoop (comp2 elt t1 i1 t2 i2 ct scope pos) 1 it' acc env) R s')
      (notedBy (model prog w) A env fun x s' => R (.error x) s') s) :
    codeAny (model prog w) A (.compStart (comp2 elt t1 i1 t2 i2 ct scope pos) 1 it acc env) R s := by
  refine codeAny_of_tree ?_
  show wpAny _ _ ((compStart (comp2 elt t1 i1 t2 i2 ct scope pos) 1 it acc env).onRaise (fun x => do noteFrame x env; standAt theWindowsPlace)) _ _ s
  refine wpAny_notedAt ?_
  unfold compStart
  show wpAny _ _ (ask >>= _) _ _ s
  refine wpAny_bind (wpAny_askSetting (wpAny_ite ?_))
  split
  · first
      | exact wpAny_bind (wpAny_pure (wpAny_pure (And.intro rfl h0)))
      | exact wpAny_pure (And.intro rfl h0)
  · first
      | exact wpAny_bind (wpAny_rule (wpAny_bind (wpAny_standAt (wpAny_bind (wpAny_mono h (fun it' s' h' => wpAny_pure (And.intro rfl h')) fun _ _ x => x)))))
      | (refine wpAny_bind (wpAny_rule ?_); show wpAny _ _ (standAt i2.pos >>= _) _ _ s; exact wpAny_bind (wpAny_standAt (wpAny_bind (wpAny_mono h (fun it' s' h' => wpAny_pure (And.intro rfl h')) fun _ _ x => x))))
end
end
-- part MI
section
section
variable {prog : Program} {w : World} {A : Around} {E : Value → Shared → Prop} {R : Result → Shared → Prop} {s : Shared} {h₀ : Heap} {L : Addr} {m : Str → Option Value} {env : Env} {i1 i2 ct : Expr} {x y : Str} {px py pe pos : Pos} {scope : Scope} {cl : List (Str × Addr)}
abbrev one1 (pe : Pos) : Expr := .Constant (.int 1) 0 pe

theorem inner2 {C D I : Addr} {oC : Obj} {nw : List (Addr × Obj)} {vx : Value} {n : Nat} {b0 : Int} {m₀ : Str → Option Value} {ys : List Value} (cnt : Nat → Bool)
    (hh : A.handled = none) (hkind : scope.kind = .function) (hy : scope.names.lookup y = some .local) (hxy : x ≠ y) (hz : ys.length + n ≤ 100000)
    (test : ∀ j t oC m₂ h tk (E' : Value → Shared → Prop), j < n → LCg.NsObj oC m₂ → m₂ x = some vx → m₂ y = some (.int (b0 + (j : Int)) t) → Fr h₀ L h m → News h₀ L h ((C, oC) :: nw) →
      wpAny (model prog w) A (isTrue ct (compEnvC scope cl C env) (eval ct (compEnvC scope cl C env))) (fun ok s' => ok = cnt j ∧ ∃ tk', s' = { s with heap := h, toks := tk' }) E' { s with heap := h, toks := tk })
    (hIL : L ≠ I) (hI0 : h₀.get? I = none) (hIC : I ≠ C) (hID : I ≠ D) (hCD : C ≠ D) (off : ∀ p ∈ nw, p.1 ≠ I ∧ p.1 ≠ C ∧ p.1 ≠ D)
    (F : Fr h₀ L s.heap m) (N : News h₀ L s.heap ((C, oC) :: (D, LCg.lst ys) :: nw)) (hC : LCg.NsObj oC m₀) (hx : m₀ x = some vx) (hit : IsRangeIter s.heap I (b0 + ((0 : Nat) : Int) * 1) ((n : Int) - ((0 : Nat) : Int)) 1)
    (hR : ∀ h tk ys' oC' m', Fr h₀ L h m → News h₀ L h ((C, oC') :: (D, LCg.lst ys') :: nw) → LCg.NsObj oC' m' → ys'.length = ys.length + ((List.range n).filter cnt).length → R (.ok .next) { s with heap := h, toks := tk }) :
    codeAny (model prog w) A (.compLoop (comp2 (one1 pe) (.Name x px) i1 (.Name y py) i2 ct scope pos) 1 (.ref I) (.ref D) (compEnvC scope cl C env)) R s := by
  refine code_in (fun k s' => ∃ h' tk i ys' oC' m', s' = { s with heap := h', toks := tk } ∧ i ≤ n ∧ k = n + 1 - i ∧ IsRangeIter h' I (b0 + (i : Nat) * 1) ((n : Int) - (i : Nat)) 1 ∧ Fr h₀ L h' m ∧ News h₀ L h' ((C, oC') :: (D, LCg.lst ys') :: nw) ∧ LCg.NsObj oC' m' ∧ m' x = some vx ∧ ys'.length = ys.length + ((List.range i).filter cnt).length) ?_ (n + 1)
    ⟨s.heap, s.toks, 0, ys, oC, m₀, rfl, Nat.zero_le _, rfl, hit, F, N, hC, hx, by simp⟩ (fun v => rfl)
  rintro k s' ⟨h', tk, i, ys', oC', m', rfl, hi, rfl, hit', F', N', hC', hx', hl⟩
  have Wk := Walks.range (prog := prog) (w := w) hh I b0 1 n
  have offI : ∀ p ∈ (C, oC') :: (D, LCg.lst ys') :: nw, p.1 ≠ I := by
    intro p hp
    simp only [List.mem_cons] at hp
    rcases hp with rfl | rfl | hp
    · exact Ne.symm hIC
    · exact Ne.symm hID
    · exact (off p hp).1
  by_cases hlt : i < n
  · refine Wk.item i _ _ _ hlt hit' fun v h₂ tk₂ hv hit₂ hk₂ => ?_
    obtain ⟨t, rfl⟩ := hv
    dsimp only
    have N₂ := LCg.news_but N' hk₂ offI
    have F₂ := LCg.fr_but F' hk₂ hIL hI0
    have zC := N₂ _ (.head _)
    have zD := N₂ _ (.tail _ (.head _))
    refine wpAny_assign_Name (wpAny_storeName_local (lookup_relabel_local hy) (hC'.ns zC.1) (fun h₃ hn₃ hs₃ => ?_) (by simp [compEnvC, relabel, hkind]))
    obtain ⟨oC3, heC, hoC⟩ := LCg.ns_obj hn₃
    have F₃ : Fr h₀ L h₃ m := F₂.change hs₃ zC.2.1 zC.2.2
    have N₃ : News h₀ L h₃ ((C, oC3) :: (D, LCg.lst ys') :: nw) := fun p hp => by
      simp only [List.mem_cons] at hp
      rcases hp with rfl | rfl | hp
      · exact ⟨heC, zC.2⟩
      · exact ⟨hs₃.extBut _ _ (Ne.symm hCD) zD.1, zD.2⟩
      · have z := N₂ p (.tail _ (.tail _ hp))
        exact ⟨hs₃.extBut _ _ (off p hp).2.1 z.1, z.2⟩
    have hit₃ : IsRangeIter h₃ I (b0 + ((i + 1 : Nat) : Int) * 1) ((n : Int) - ((i + 1 : Nat) : Int)) 1 := (hs₃.2 I hIC).trans hit₂
    have e : b0 + (i : Int) * 1 = b0 + (i : Int) := by omega
    refine wpAny_mono (test i t oC3 _ h₃ _ _ hlt hoC (by simp [hxy, hx']) (by simp [e]) F₃ (fun p hp => N₃ p (by
      simp only [List.mem_cons] at hp ⊢; rcases hp with h | h <;> simp [h]))) (fun ok s₄ h₄ => ?_) fun _ _ e => e
    obtain ⟨rfl, tk', rfl⟩ := h₄
    have hcl : ((List.range (i + 1)).filter cnt).length = ((List.range i).filter cnt).length + (if cnt i = true then 1 else 0) := by
      rw [List.range_succ, List.filter_append, List.length_append]
      cases hci : cnt i <;> simp [hci]
    cases hci : cnt i with
    | true =>
      simp only [if_true]
      refine wpAny_Constant_int ?_
      have zD3 := N₃ _ (.tail _ (.head _))
      refine append_at (hsz := by
        show ys'.toArray.size ≤ sizeLine
        rw [List.size_toArray, hl, sizeLine_eq]
        have : ((List.range i).filter cnt).length ≤ i := by
          have := List.length_filter_le cnt (List.range i)
          simpa using this
        exact Nat.le_trans (by omega : _ ≤ 100000) (by decide)) zD3.1 fun h₅ hs₅ hD₅ => ?_
      refine ⟨n + 1 - (i + 1), by omega, h₅, _, i + 1, ys' ++ [.int 1 tk'], oC3, _, rfl, hlt, rfl, (hs₅.2 I hID).trans hit₃, F₃.change hs₅ zD3.2.1 zD3.2.2, fun p hp => ?_, hoC, by simp [hxy, hx'], by rw [hcl, hci]; simp [hl]; omega⟩
      simp only [List.mem_cons] at hp
      rcases hp with rfl | rfl | hp
      · exact ⟨(hs₅.2 _ hCD).trans heC, zC.2⟩
      · exact ⟨hD₅.trans (congrArg some (LCg.lst_snoc ys' _)), zD3.2⟩
      · have z := N₃ p (.tail _ (.tail _ hp))
        exact ⟨(hs₅.2 _ (off p hp).2.2).trans z.1, z.2⟩
    | false =>
      simp only [Bool.false_eq_true, if_false]
      exact ⟨n + 1 - (i + 1), by omega, h₃, _, i + 1, ys', oC3, _, rfl, hlt, rfl, hit₃, F₃, N₃, hoC, by simp [hxy, hx'], by rw [hcl, hci]; simp [hl]⟩
  · obtain rfl : i = n := Nat.le_antisymm hi (Nat.not_lt.mp hlt)
    refine Wk.done _ _ _ hit' fun h₂ tk₂ hk₂ => ?_
    exact hR h₂ tk₂ ys' oC' m' (LCg.fr_but F' hk₂ hIL hI0) (LCg.news_but N' hk₂ offI) hC' hl
end
end
-- part MJ
section
section
variable {prog : Program} {w : World} {A : Around} {E : Value → Shared → Prop} {R : Result → Shared → Prop} {s : Shared} {h₀ : Heap} {L : Addr} {m : Str → Option Value} {env : Env} {i1 i2 ct : Expr} {x y : Str} {px py pe pos : Pos} {scope : Scope} {cl : List (Str × Addr)}

def tot2 (n : Nat) (cnt : Nat → Nat → Bool) : Nat → Nat
  | 0 => 0
  | i + 1 => tot2 n cnt i + ((List.range n).filter (cnt i)).length
theorem tot2_le (n : Nat) (cnt : Nat → Nat → Bool) : ∀ i, tot2 n cnt i ≤ i * n
  | 0 => Nat.zero_le _
  | i + 1 => by
    have h1 := tot2_le n cnt i
    have h2 := List.length_filter_le (cnt i) (List.range n)
    simp only [List.length_range] at h2
    rw [tot2, Nat.add_mul, Nat.one_mul]
    omega

theorem comp2_rule {news : List (Addr × Obj)} {n : Nat} {b0 b1 : Int} {Q : Value → Shared → Prop} (cnt : Nat → Nat → Bool)
    (hh : A.handled = none) (hclos : closureFor scope env = pure cl) (hcell : ∀ z ∈ scope.names, z.2 ≠ .cell) (hkind : scope.kind = .function)
    (hnames : ∀ z ∈ scope.names, z.2 = .local → scope.names.lookup z.1 = some .local) (hx : scope.names.lookup x = some .local) (hy : scope.names.lookup y = some .local) (hxy : x ≠ y) (hn : n ≤ 100)
    (hsm : Builtin.Range.small b0 b1 1 = true) (hrs : Builtin.Range.rangeSize b0 b1 1 = (n : Int)) (F : Fr h₀ L s.heap m) (N : News h₀ L s.heap news)
    (h1 : ∀ Q' : Value → Shared → Prop, (∀ h' tk r t u v, Fr h₀ L h' m → News h₀ L h' news → IsRange h' r b0 b1 1 t u v → Q' (.ref r) { s with heap := h', toks := tk }) → wpAny (model prog w) A (eval i1 env) Q' E s)
    (h2 : ∀ C oC m₂ h tk (E' Q' : Value → Shared → Prop), LCg.NsObj oC m₂ → Fr h₀ L h m → News h₀ L h ((C, oC) :: news) →
      (∀ h' tk r t u v, Fr h₀ L h' m → (∀ b o, h.get? b = some o → h'.get? b = some o) → IsRange h' r b0 b1 1 t u v → Q' (.ref r) { s with heap := h', toks := tk }) →
      wpAny (model prog w) A (eval i2 (compEnvC scope cl C env)) Q' E' { s with heap := h, toks := tk })
    (test : ∀ i j ti tj C oC m₂ h tk (E' : Value → Shared → Prop), i < n → j < n → LCg.NsObj oC m₂ → m₂ x = some (.int (b0 + (i : Int)) ti) → m₂ y = some (.int (b0 + (j : Int)) tj) → Fr h₀ L h m → News h₀ L h ((C, oC) :: news) →
      wpAny (model prog w) A (isTrue ct (compEnvC scope cl C env) (eval ct (compEnvC scope cl C env))) (fun ok s' => ok = cnt i j ∧ ∃ tk', s' = { s with heap := h, toks := tk' }) E' { s with heap := h, toks := tk })
    (k : ∀ D h tk ys, Fr h₀ L h m → News h₀ L h ((D, LCg.lst ys) :: news) → (∀ p ∈ news, p.1 ≠ D) → ys.length = tot2 n cnt n → Q (.ref D) { s with heap := h, toks := tk })
    (hs1 : ∀ z, foldedSetIterable i1 env z = pure z) (hs2 : ∀ C z, foldedSetIterable i2 (compEnvC scope cl C env) z = pure z) :
    wpAny (model prog w) A (eval (comp2 (one1 pe) (.Name x px) i1 (.Name y py) i2 ct scope pos) env) Q E s := by
  rw [eval_ListComp]
  refine wpAny_comprehension_free (use := none) rfl hs1 hclos hkind hnames (h1 _ fun H tk r t u v F1 N1 hr => ?_)
  refine wpAny_pyIter_range hr hsm ?_
  rw [hrs]
  -- the outer iterator
  generalize hH1 : H.push { cls := .type "range_iterator", data := .fields #[rawInt b0, rawInt (n : Int), rawInt 1] } = H1
  have up1 : ∀ b o, H.get? b = some o → H1.get? b = some o := fun b o e => hH1 ▸ Heap.get?_push_of_some _ e
  have hit1 : IsRangeIter H1 H.objs.size b0 (n : Int) 1 := by subst hH1; simpa using Heap.get?_push_size _ rfl
  have hI0 : h₀.get? H.objs.size = none := next_is_new F1
  have hIL : L ≠ H.objs.size := Nat.ne_of_lt F1.ns.lt
  have offI : ∀ p ∈ news, p.1 ≠ H.objs.size := fun p hp => Nat.ne_of_lt (Heap.lt_size (N1 p hp).1)
  have F2 := F1.keeps up1
  have N2 := N1.grown up1
  have hIlt : H.objs.size < H1.objs.size := by rw [← hH1, Heap.size_push]; exact Nat.lt_succ_self _
  dsimp only
  generalize H.objs.size = I at hit1 hI0 hIL offI hIlt ⊢
  refine wpAny_newObj_type (wpAny_newFunctionEnv hcell (by intro y hy; simp at hy) (fun h₁ hns₁ hsb₁ => ?_) hkind)
  dsimp only at hns₁ hsb₁ ⊢
  generalize hH2 : H1.push { cls := .type "list", dict := none, data := .seq ([] : List Value).toArray } = H2 at hns₁ hsb₁ ⊢
  have sz2 : H2.objs.size = H1.objs.size + 1 := by rw [← hH2, Heap.size_push]
  have up2 : ∀ b o, H1.get? b = some o → H2.get? b = some o := fun b o e => hH2 ▸ Heap.get?_push_of_some _ e
  have below : ∀ b, b < H1.objs.size → b ≠ H2.objs.size ∧ b ≠ H1.objs.size := fun b hb => ⟨by rw [sz2]; exact Nat.ne_of_lt (Nat.lt_succ_of_lt hb), Nat.ne_of_lt hb⟩
  have hDC : H1.objs.size ≠ H2.objs.size := by rw [sz2]; exact Nat.ne_of_lt (Nat.lt_succ_self _)
  have old : ∀ b o, H1.get? b = some o → h₁.get? b = some o := fun b o e => hsb₁.extBut b o (below b (Heap.lt_size e)).1 (Heap.get?_push_of_some _ (up2 b o e))
  have hD1 : h₁.get? H1.objs.size = some (LCg.lst []) := hsb₁.extBut _ _ hDC (Heap.get?_push_of_some _ (hH2 ▸ Heap.get?_push_size _ rfl))
  have hD₀ : h₀.get? H1.objs.size = none := next_is_new F2
  have hLD : H1.objs.size ≠ L := Ne.symm (Nat.ne_of_lt F2.ns.lt)
  have F2' := F2.keeps up2
  have hC₀ : h₀.get? H2.objs.size = none := next_is_new F2'
  have hLC : H2.objs.size ≠ L := Ne.symm (Nat.ne_of_lt F2'.ns.lt)
  have offCD : ∀ p ∈ news, p.1 ≠ H2.objs.size ∧ p.1 ≠ H1.objs.size := fun p hp => below _ (Heap.lt_size (N2 p hp).1)
  have hIC := (below I hIlt).1
  have hID := (below I hIlt).2
  have F3 := F2.keeps old
  obtain ⟨oC, heC, hoC⟩ := LCg.ns_obj hns₁
  have N3 : News h₀ L h₁ ((H2.objs.size, oC) :: (H1.objs.size, LCg.lst []) :: news) := fun p hp => by
    simp only [List.mem_cons] at hp
    rcases hp with rfl | rfl | hp
    · exact ⟨heC, hLC, hC₀⟩
    · exact ⟨hD1, hLD, hD₀⟩
    · exact (N2.grown old) p hp
  have hit3 : IsRangeIter h₁ I b0 (n : Int) 1 := old _ _ hit1
  have hCD : H2.objs.size ≠ H1.objs.size := Ne.symm hDC
  clear N1 F1 hr up1 hH1 hH2 up2 below old hsb₁ hns₁ F2 F2' N2 hD1 heC sz2 hDC hit1 hIlt
  generalize H2.objs.size = C at *
  generalize H1.objs.size = D at *
  have loop : ∀ s₃ : Shared, (∃ tk, s₃ = { s with heap := h₁, toks := tk }) →
      codeAny (model prog w) A (.compLoop (comp2 (one1 pe) (.Name x px) i1 (.Name y py) i2 ct scope pos) 0 (.ref I) (.ref D) (compEnvC scope cl C env)) (compPost (model prog w) A E none Q (.ref D) C) s₃ := by
    rintro s₃ ⟨tk₃, rfl⟩
    refine code_out (fun kk s' => ∃ h' tk i ys oC' m', s' = { s with heap := h', toks := tk } ∧ i ≤ n ∧ kk = n + 1 - i ∧ IsRangeIter h' I (b0 + (i : Nat) * 1) ((n : Int) - (i : Nat)) 1 ∧ Fr h₀ L h' m ∧ News h₀ L h' ((C, oC') :: (D, LCg.lst ys) :: news) ∧ LCg.NsObj oC' m' ∧ ys.length = tot2 n cnt i) ?_ (n + 1)
      ⟨h₁, tk₃, 0, [], oC, _, rfl, Nat.zero_le _, rfl, by simpa using hit3, F3, N3, hoC, rfl⟩ (fun v => rfl) (hs2 C)
    rintro kk s' ⟨h', tk, i, ys, oC', m', rfl, hi, rfl, hit', F', N', hC', hl⟩
    have Wk := Walks.range (prog := prog) (w := w) hh I b0 1 n
    have offI' : ∀ p ∈ (C, oC') :: (D, LCg.lst ys) :: news, p.1 ≠ I := by
      intro p hp
      simp only [List.mem_cons] at hp
      rcases hp with rfl | rfl | hp
      · exact Ne.symm hIC
      · exact Ne.symm hID
      · exact offI p hp
    by_cases hlt : i < n
    · refine Wk.item i _ _ _ hlt hit' fun v h₂ tk₂ hv hit₂ hk₂ => ?_
      obtain ⟨ti, rfl⟩ := hv
      dsimp only
      have N₂ := LCg.news_but N' hk₂ offI'
      have F₂ := LCg.fr_but F' hk₂ hIL hI0
      have zC := N₂ _ (.head _)
      have zD := N₂ _ (.tail _ (.head _))
      refine wpAny_assign_Name (wpAny_storeName_local (lookup_relabel_local hx) (hC'.ns zC.1) (fun h₃ hn₃ hs₃ => ?_) (by simp [compEnvC, relabel, hkind]))
      obtain ⟨oC3, heC, hoC3⟩ := LCg.ns_obj hn₃
      have F₃ : Fr h₀ L h₃ m := F₂.change hs₃ zC.2.1 zC.2.2
      have N₃ : News h₀ L h₃ ((C, oC3) :: (D, LCg.lst ys) :: news) := fun p hp => by
        simp only [List.mem_cons] at hp
        rcases hp with rfl | rfl | hp
        · exact ⟨heC, zC.2⟩
        · exact ⟨hs₃.extBut _ _ (Ne.symm hCD) zD.1, zD.2⟩
        · have z := N₂ p (.tail _ (.tail _ hp))
          exact ⟨hs₃.extBut _ _ (offCD p hp).1 z.1, z.2⟩
      have hit₃ : IsRangeIter h₃ I (b0 + ((i + 1 : Nat) : Int) * 1) ((n : Int) - ((i + 1 : Nat) : Int)) 1 := (hs₃.2 I hIC).trans hit₂
      have e : b0 + (i : Int) * 1 = b0 + (i : Int) := by omega
      rw [e] at hn₃ hoC3
      refine h2 C oC3 _ h₃ _ _ _ hoC3 F₃ (fun p hp => N₃ p (by
        simp only [List.mem_cons] at hp ⊢; rcases hp with h | h <;> simp [h])) fun h₄ tk₄ r₄ t₄ u₄ v₄ F₄ up₄ hr₄ => ?_
      refine wpAny_pyIter_range hr₄ hsm ?_
      rw [hrs]
      have N₄ := N₃.grown up₄
      generalize hH5 : h₄.push { cls := .type "range_iterator", data := .fields #[rawInt b0, rawInt (n : Int), rawInt 1] } = h₅
      have up5 : ∀ b o, h₄.get? b = some o → h₅.get? b = some o := fun b o e => hH5 ▸ Heap.get?_push_of_some _ e
      have hit5 : IsRangeIter h₅ h₄.objs.size b0 (n : Int) 1 := by subst hH5; simpa using Heap.get?_push_size _ rfl
      have hI20 : h₀.get? h₄.objs.size = none := next_is_new F₄
      have hI2L : L ≠ h₄.objs.size := Nat.ne_of_lt F₄.ns.lt
      have lt4 : ∀ b o, h₄.get? b = some o → b ≠ h₄.objs.size := fun b o e => Nat.ne_of_lt (Heap.lt_size e)
      have hI2I : I ≠ h₄.objs.size := lt4 _ _ (up₄ _ _ hit₃)
      have hI2C : C ≠ h₄.objs.size := lt4 _ _ (N₄ _ (.head _)).1
      have hI2D : D ≠ h₄.objs.size := lt4 _ _ (N₄ _ (.tail _ (.head _))).1
      have hI2n : ∀ p ∈ news, p.1 ≠ h₄.objs.size := fun p hp => lt4 _ _ (N₄ p (.tail _ (.tail _ hp))).1
      have F5 := F₄.keeps up5
      have N5 := N₄.grown up5
      have hitI5 := up5 _ _ (up₄ _ _ hit₃)
      dsimp only
      generalize h₄.objs.size = I2 at *
      obtain ⟨oI, hoI⟩ : ∃ o, h₅.get? I = some o := ⟨_, hitI5⟩
      have N6 : News h₀ L h₅ ((C, oC3) :: (D, LCg.lst ys) :: (I, oI) :: news) := fun p hp => by
        simp only [List.mem_cons] at hp
        rcases hp with rfl | rfl | rfl | hp
        · exact N5 _ (.head _)
        · exact N5 _ (.tail _ (.head _))
        · exact ⟨hoI, Ne.symm hIL, hI0⟩
        · exact N5 _ (.tail _ (.tail _ hp))
      have off6 : ∀ p ∈ (I, oI) :: news, p.1 ≠ I2 ∧ p.1 ≠ C ∧ p.1 ≠ D := fun p hp => by
        rcases List.mem_cons.mp hp with rfl | hp
        · exact ⟨hI2I, hIC, hID⟩
        · exact ⟨hI2n p hp, (offCD p hp).1, (offCD p hp).2⟩
      have tl := tot2_le n cnt i
      have tl2 : i * n ≤ 100 * 100 := Nat.mul_le_mul (by omega) hn
      have hAm : A.mark none = A := rfl
      rw [hAm]
      have inner : ∀ tk₅ R, (∀ h tk ys' oCx m', Fr h₀ L h m → News h₀ L h ((C, oCx) :: (D, LCg.lst ys') :: (I, oI) :: news) → LCg.NsObj oCx m' → ys'.length = ys.length + ((List.range n).filter (cnt i)).length → R (.ok .next) { s with heap := h, toks := tk }) →
          codeAny (model prog w) A (.compLoop (comp2 (one1 pe) (.Name x px) i1 (.Name y py) i2 ct scope pos) 1 (.ref I2) (.ref D) (compEnvC scope cl C env)) R { s with heap := h₅, toks := tk₅ } := by
        intro tk₅ R hR
        refine inner2 (s := { s with heap := h₅, toks := tk₅ }) (oC := oC3) (nw := (I, oI) :: news) (vx := .int (b0 + (i : Int)) ti) (n := n) (b0 := b0) (ys := ys) (cnt i) hh hkind hy hxy (by omega) ?_ hI2L hI20 (Ne.symm hI2C) (Ne.symm hI2D) hCD off6 F5 N6 hoC3 (by simp) (by simpa using hit5) ?_
        · intro j t oCx m₂ h tk E' hj hCx hxx hyy Fx Nx
          exact test i j ti t C oCx m₂ h tk E' hlt hj hCx hxx hyy Fx fun p hp => Nx p (by
            simp only [List.mem_cons] at hp ⊢; rcases hp with h | h <;> simp [h])
        · intro h tk ys' oCx m' Fx Nx hCx hlx
          exact hR h tk ys' oCx m' Fx Nx hCx hlx
      have fin : ∀ h tk ys' oCx m', Fr h₀ L h m → News h₀ L h ((C, oCx) :: (D, LCg.lst ys') :: (I, oI) :: news) → LCg.NsObj oCx m' → ys'.length = ys.length + ((List.range n).filter (cnt i)).length →
          ∃ mm, mm < n + 1 - i ∧ ∃ h' tk' i' ys oC' m', ({ s with heap := h, toks := tk } : Shared) = { s with heap := h', toks := tk' } ∧ i' ≤ n ∧ mm = n + 1 - i' ∧ IsRangeIter h' I (b0 + (i' : Nat) * 1) ((n : Int) - (i' : Nat)) 1 ∧ Fr h₀ L h' m ∧ News h₀ L h' ((C, oC') :: (D, LCg.lst ys) :: news) ∧ LCg.NsObj oC' m' ∧ ys.length = tot2 n cnt i' := by
        intro h tk ys' oCx m' Fx Nx hCx hlx
        refine ⟨n + 1 - (i + 1), by omega, h, tk, i + 1, ys', oCx, m', rfl, hlt, rfl, (Nx (I, oI) (by simp)).1.trans (hoI.symm.trans hitI5), Fx, fun p hp => Nx p (by
          simp only [List.mem_cons] at hp ⊢; rcases hp with h | h | h <;> simp [h]), hCx, by rw [hlx, hl]; rfl⟩
      refine start_in (inner _ _ fin) (wpAny_pyIter_rangeiter (x := b0) (left := (n : Int)) (step := 1) hit5 (inner _ _ fin))
    · obtain rfl : i = n := Nat.le_antisymm hi (Nat.not_lt.mp hlt)
      refine Wk.done _ _ _ hit' fun h₂ tk₂ hk₂ => ?_
      have N₂ := LCg.news_but N' hk₂ offI'
      have F₂ := LCg.fr_but F' hk₂ hIL hI0
      refine ⟨m', hC'.ns (N₂ _ (.head _)).1, fun h'' hs'' => k D h'' tk₂ ys (F₂.change hs'' hLC hC₀) (fun p hp => ?_) (fun p hp => (offCD p hp).2) hl⟩
      have z := N₂ p (.tail _ hp)
      refine ⟨hs''.extBut _ _ ?_ z.1, z.2⟩
      rcases List.mem_cons.mp hp with rfl | hp
      · exact Ne.symm hCD
      · exact (offCD p hp).1
  exact codeAny_compStart_list (loop _ ⟨_, rfl⟩) (wpAny_pyIter_rangeiter (x := b0) (left := (n : Int)) (step := 1) hit3 (loop _ ⟨_, rfl⟩))
end
end
-- part MK
section
section
variable {prog : Program} {w : World} {A : Around} {E : Value → Shared → Prop} {s : Shared} {h₀ : Heap} {L : Addr} {m : Str → Option Value} {env : Env} {elt iter : Expr} {x : Str} {px pos : Pos} {scope : Scope} {cl : List (Str × Addr)}
theorem off1_mem {D : Addr} : ∀ {l : List (Addr × Obj)}, LCg.Off1 D l → ∀ p ∈ l, p.1 ≠ D
  | [], _, p, hp => by cases hp
  | q :: r, h, p, hp => by
    rcases List.mem_cons.mp hp with rfl | hp
    · exact h.1
    · exact off1_mem h.2 p hp
/-- [ELT for X in D], ELT an int that the key's number gives -/
theorem comp_keys {news : List (Addr × Obj)} {d : Addr} {od : Obj} {f : List (Int × Int)} {Q : Value → Shared → Prop}
    (hh : A.handled = none) (hclos : closureFor scope env = pure cl) (hcell : ∀ z ∈ scope.names, z.2 ≠ .cell) (hkind : scope.kind = .function)
    (hnames : ∀ z ∈ scope.names, z.2 = .local → scope.names.lookup z.1 = some .local) (hx : scope.names.lookup x = some .local)
    (F : Fr h₀ L s.heap m) (N : News h₀ L s.heap news) (hm : (d, od) ∈ news) (lo : (d == sysModules) = false) (X : DictO prog w news od f) (hz : f.length ≤ 100000)
    (hi : ∀ Q' : Value → Shared → Prop, Q' (.ref d) s → wpAny (model prog w) A (eval iter env) Q' E s)
    (turn : ∀ k a ok C oC m₂ h tk (E' Q' : Value → Shared → Prop), (∀ t' tk', Q' (.int k t') { s with heap := h, toks := tk' }) → (a, ok) ∈ news → KeyObj k ok → LCg.NsObj oC m₂ → m₂ x = some (.ref a) → Fr h₀ L h m → News h₀ L h ((C, oC) :: news) →
      wpAny (model prog w) A (eval elt (compEnvC scope cl C env)) Q' E' { s with heap := h, toks := tk })
    (k : ∀ D h tk ys, Fr h₀ L h m → News h₀ L h ((D, LCg.lst ys) :: news) → (∀ p ∈ news, p.1 ≠ D) → IntsAre ys (f.map (·.1)) → Q (.ref D) { s with heap := h, toks := tk })
    (hs : ∀ z, foldedSetIterable iter env z = pure z) :
    wpAny (model prog w) A (eval (.ListComp elt [⟨.Name x px, iter, [], 0⟩] scope pos) env) Q E s := by
  obtain ⟨es, ep, xs, x⟩ := X
  rw [eval_ListComp]
  refine wpAny_comprehension_free (use := none) rfl hs hclos hkind hnames (hi _ ?_)
  obtain ⟨hd1, hd2, hd3⟩ := N _ hm
  have hlt := Heap.lt_size hd1
  refine keysIter lo (x.raw hd1) ?_
  have hsz : es.size = f.length := x.size
  generalize hH1 : s.heap.push { cls := .type "dict_keyiterator", data := .fields #[.ref d, .int 0 0, .int es.size 0, .int ep 0] } = H1
  have up : ∀ b o, s.heap.get? b = some o → H1.get? b = some o := fun b o e => hH1 ▸ Heap.get?_push_of_some _ e
  have hit : H1.IsKeyIter s.heap.objs.size d 0 es.size ep := by subst hH1; exact ⟨_, Heap.get?_push_size _ rfl, rfl, rfl⟩
  have hIlt : s.heap.objs.size < H1.objs.size := by rw [← hH1, Heap.size_push]; exact Nat.lt_succ_self _
  refine LCg.block_U (s₂ := { s with heap := H1 }) (S := fun nw => (d, od) ∈ nw) (Fin := fun ys nw => nw = news ∧ IntsAre ys (f.map (·.1))) (keysWalk hh s.heap.objs.size d (Nat.ne_of_lt hlt) es ep) (by rw [hsz, sizeLine_eq]; exact Nat.le_trans hz (by decide))
    (fun i h st => by obtain ⟨o, e, _⟩ := st.1; exact ⟨o, e⟩) ?_ hcell hkind hx ⟨hit, (x.raw hd1).at fun o e => up _ _ e⟩ (fun b hb => ?_)
    (F.keeps up) (N.grown up) (Nat.ne_of_lt F.ns.lt) (next_is_new F) (fun p hp => Nat.ne_of_lt (Heap.lt_size (N p hp).1)) hm ?_ ?_
  · rintro i h h' o nw ⟨hi1, hi2⟩ e e' _ Nw hS
    refine ⟨?_, x.raw (Nw _ hS).1⟩
    obtain ⟨o', q, r⟩ := hi1
    rw [e] at q; cases q
    exact ⟨o, e', r⟩
  · rcases List.mem_cons.mp hb with rfl | hb
    · exact hIlt
    · rw [List.mem_singleton.mp hb]; exact Nat.lt_trans hlt hIlt
  · refine comp_ind (fun i ys nw => nw = news ∧ IntsAre ys ((f.take i).map (·.1))) ?_ ?_ ⟨rfl, .nil⟩
    · rintro i ys nw hin ⟨rfl, hy⟩ v I oI C oC D m₂ h tk E' ⟨en, hen, rfl⟩ hC hxx F1 N1 off ne
      obtain ⟨n, c, a, ok, t, hf, e1, e2, hak, hk⟩ := x.entry hen
      rw [e1] at hxx
      refine turn n a ok C oC m₂ h tk E' _ (fun t' tk' => ?_) hak hk hC hxx F1 fun p hp => N1 p (by
        simp only [List.mem_cons] at hp ⊢; rcases hp with h | h <;> simp [h])
      refine LCg.CompEnd.intro F1 N1 nw (fun p hp => hp) off hm ⟨rfl, ?_⟩
      rw [List.take_add_one, hf]
      simpa using IntsAre.append hy (.cons n t' .nil)
    · rintro ys nw ⟨rfl, hy⟩
      rw [hsz, List.take_length] at hy
      exact ⟨rfl, hy⟩
  · intro D C h tk m' ys news' F' N' o1 hn hC₀ hD₀ hCL hDL hCD offC fin
    obtain ⟨rfl, hy⟩ := fin
    refine ⟨m', hn, fun h'' hs'' => k D h'' tk ys (F'.change hs'' hCL hC₀) (fun p hp => ?_) (off1_mem o1) hy⟩
    refine ⟨hs''.extBut _ _ ?_ (N' p hp).1, (N' p hp).2⟩
    rcases List.mem_cons.mp hp with rfl | hp
    · exact Ne.symm hCD
    · exact offC p hp
end
end
-- part PF
section
theorem by_bound {P : Int → Prop} (h : ∀ k : Fin 13, P (4 + (k.val : Int))) {b : Int} (h0 : 4 ≤ b) (h1 : b ≤ 16) : P b := by
  have := h ⟨(b - 4).toNat, by omega⟩
  dsimp only at this
  rwa [show (4 : Int) + (((b - 4).toNat : Nat) : Int) = b from by omega] at this
theorem twosT_len {b : Int} (h0 : 4 ≤ b) (h1 : b ≤ 16) : (twosT b).length ≤ 20 :=
  by_bound (P := fun b => (twosT b).length ≤ 20) (by decide +kernel) h0 h1
theorem twosT_bnd {b : Int} (h0 : 4 ≤ b) (h1 : b ≤ 16) : ∀ p ∈ twosT b, 0 ≤ p.1 ∧ p.1 ≤ 16 ∧ 0 ≤ p.2 ∧ p.2 ≤ 100 :=
  by_bound (P := fun b => ∀ p ∈ twosT b, 0 ≤ p.1 ∧ p.1 ≤ 16 ∧ 0 ≤ p.2 ∧ p.2 ≤ 100) (by decide +kernel) h0 h1
theorem count_fact {b : Int} (h0 : 4 ≤ b) (h1 : b ≤ 16) : ((twosT b).map (·.2)).sum = ((tot2 9 (fun i j => decide ((0 - 4 + (i : Int)) * (0 - 4 + (i : Int)) + (0 - 4 + (j : Int)) * (0 - 4 + (j : Int)) ≤ b)) 9 : Nat) : Int) :=
  by_bound (P := fun b => ((twosT b).map (·.2)).sum = ((tot2 9 (fun i j => decide ((0 - 4 + (i : Int)) * (0 - 4 + (i : Int)) + (0 - 4 + (j : Int)) * (0 - 4 + (j : Int)) ≤ b)) 9 : Nat) : Int)) (by decide +kernel) h0 h1
theorem four_zero {b : Int} (h0 : 4 ≤ b) (h1 : b ≤ 16) : ((foursT b (twosT b)).lookup 0).getD 0 = 1 :=
  by_bound (P := fun b => ((foursT b (twosT b)).lookup 0).getD 0 = 1) (by decide +kernel) h0 h1
theorem four_len {b : Int} (h0 : 4 ≤ b) (h1 : b ≤ 16) : (foursT b (twosT b)).length ≤ 100000 :=
  Nat.le_trans (by_bound (P := fun b => (foursT b (twosT b)).length ≤ 20) (by decide +kernel) h0 h1) (by decide)
theorem four_len20 {b : Int} (h0 : 4 ≤ b) (h1 : b ≤ 16) : (foursT b (twosT b)).length ≤ 20 :=
  by_bound (P := fun b => (foursT b (twosT b)).length ≤ 20) (by decide +kernel) h0 h1
theorem four_keys {b : Int} (h0 : 4 ≤ b) (h1 : b ≤ 16) : ((foursT b (twosT b)).map (·.1)).Perm (rangeKs 0 (b + 1).toNat) :=
  by_bound (P := fun b => ((foursT b (twosT b)).map (·.1)).Perm (rangeKs 0 (b + 1).toNat)) (by decide +kernel) h0 h1
theorem range_sorted {b : Int} (h0 : 4 ≤ b) (h1 : b ≤ 16) : (rangeKs 0 (b + 1).toNat).Pairwise (· ≤ ·) :=
  by_bound (P := fun b => (rangeKs 0 (b + 1).toNat).Pairwise (· ≤ ·)) (by decide +kernel) h0 h1
theorem keys_sorted {b : Int} (h0 : 4 ≤ b) (h1 : b ≤ 16) {ns : List Int} (hp : ns.Perm ((foursT b (twosT b)).map (·.1))) (hs : ns.Pairwise (· ≤ ·)) : ns = rangeKs 0 (b + 1).toNat :=
  (hp.trans (four_keys h0 h1)).eq_of_pairwise (fun a b _ _ h h' => Int.le_antisymm h h') hs (range_sorted h0 h1)
end
-- part PG
section
def sumOdd (n : Int) : Int := ((partsOf n).filter fun d => d.fmod 4 != 0).sum
def onesOf (n : Int) : Int := (((partsOf n).filter fun d => d.fmod 4 == 1).length : Int)
def threesOf (n : Int) : Int := (((partsOf n).filter fun d => d.fmod 4 == 3).length : Int)
theorem by_bound2 {P : Int → Int → Prop} (h : ∀ k : Fin 13, ∀ i : Fin 16, (1 : Int) + (i.val : Int) ≤ 4 + (k.val : Int) → P (4 + (k.val : Int)) (1 + (i.val : Int))) {b n : Int} (h0 : 4 ≤ b) (h1 : b ≤ 16) (h2 : 1 ≤ n) (h3 : n ≤ b) : P b n := by
  have := h ⟨(b - 4).toNat, by omega⟩ ⟨(n - 1).toNat, by omega⟩ (by dsimp only; omega)
  dsimp only at this
  rwa [show (4 : Int) + (((b - 4).toNat : Nat) : Int) = b from by omega, show (1 : Int) + (((n - 1).toNat : Nat) : Int) = n from by omega] at this
theorem four_at {b n : Int} (h0 : 4 ≤ b) (h1 : b ≤ 16) (h2 : 1 ≤ n) (h3 : n ≤ b) : (foursT b (twosT b)).lookup n = some (8 * sumOdd n) :=
  by_bound2 (P := fun b n => (foursT b (twosT b)).lookup n = some (8 * sumOdd n)) (by decide +kernel) h0 h1 h2 h3
theorem two_at {b n : Int} (h0 : 4 ≤ b) (h1 : b ≤ 16) (h2 : 1 ≤ n) (h3 : n ≤ b) : ((twosT b).lookup n).getD 0 = 4 * (onesOf n - threesOf n) :=
  by_bound2 (P := fun b n => ((twosT b).lookup n).getD 0 = 4 * (onesOf n - threesOf n)) (by decide +kernel) h0 h1 h2 h3
theorem prime_at {b n : Int} (h0 : 4 ≤ b) (h1 : b ≤ 16) (h2 : 1 ≤ n) (h3 : n ≤ b) : (partsOf n).length = 2 → 2 < n → 8 * sumOdd n = 8 * (n + 1) :=
  by_bound2 (P := fun _ n => (partsOf n).length = 2 → 2 < n → 8 * sumOdd n = 8 * (n + 1)) (by decide +kernel) h0 h1 h2 h3
theorem parts_len {n : Int} (h2 : 1 ≤ n) (h3 : n ≤ 16) : (partsOf n).length ≤ 16 :=
  by_bound2 (P := fun _ n => (partsOf n).length ≤ 16) (by decide +kernel) (b := 16) (by omega) (by omega) h2 h3
theorem sum_bnd {n : Int} (h2 : 1 ≤ n) (h3 : n ≤ 16) : 0 ≤ sumOdd n ∧ sumOdd n ≤ 1000 :=
  by_bound2 (P := fun _ n => 0 ≤ sumOdd n ∧ sumOdd n ≤ 1000) (by decide +kernel) (b := 16) (by omega) (by omega) h2 h3
theorem ones_bnd {n : Int} (h2 : 1 ≤ n) (h3 : n ≤ 16) : 0 ≤ onesOf n ∧ onesOf n ≤ 1000 ∧ 0 ≤ threesOf n ∧ threesOf n ≤ 1000 :=
  by_bound2 (P := fun _ n => 0 ≤ onesOf n ∧ onesOf n ≤ 1000 ∧ 0 ≤ threesOf n ∧ threesOf n ≤ 1000) (by decide +kernel) (b := 16) (by omega) (by omega) h2 h3
def prs : List (Int × Int) := [(2, 3), (3, 4), (3, 5), (2, 7)]
theorem prs_fact : ∀ x ∈ prs, 1 ≤ x.1 ∧ 1 ≤ x.2 ∧ x.1 ≤ 7 ∧ x.2 ≤ 7 ∧ x.1 ≤ x.1 * x.2 ∧ x.2 ≤ x.1 * x.2 ∧ x.1 * x.2 ≤ 15 ∧ 8 * sumOdd x.1 * (8 * sumOdd x.2) = 8 * (8 * sumOdd (x.1 * x.2)) := by decide +kernel
end
-- part ML
section
section
variable {prog : Program} {w : World} {h₀ h : Heap} {L P d : Addr} {news : List (Addr × Obj)} {o : Obj} {f : List (Int × Int)} {ps : Array Value}
theorem DictO.off (N : News h₀ L h news) (hP : (P, tabObj ps) ∈ news) (hd : (d, o) ∈ news) (x : DictO prog w news o f) : d ≠ P := by
  rintro rfl
  have e1 := (N _ hP).1
  rw [(N _ hd).1] at e1
  have e2 : o = tabObj ps := Option.some.inj e1
  obtain ⟨es, ep, xs, y⟩ := x
  have := y.data
  rw [e2] at this
  cases this
theorem DictO.cut (N : News h₀ L h news) (hP : (P, tabObj ps) ∈ news) (x : DictO prog w news o f) : DictO prog w (news.filter fun p => p.1 != P) o f := by
  obtain ⟨es, ep, xs, y⟩ := x
  refine ⟨es, ep, xs, y.exact, y.data, y.ent, y.nodup, fun z hz => ?_, y.vint, y.tab⟩
  obtain ⟨ok, mk, hk⟩ := y.keys z hz
  refine ⟨ok, List.mem_filter.mpr ⟨mk, ?_⟩, hk⟩
  have hne : z.2.1 ≠ P := by
    intro e
    rw [e] at mk
    have e1 := (N _ hP).1
    rw [(N _ mk).1] at e1
    have e2 : ok = tabObj ps := Option.some.inj e1
    obtain ⟨_, t, u, v, ep, hdat⟩ := hk
    rw [e2] at hdat
    cases hdat
  simpa using hne
theorem TabOk.drop {I : Addr} {bx : List Addr} {r : List (Addr × Obj)} {line col : Nat} {qual : Str} (x : TabOk (I :: bx) r line col qual ps) : TabOk bx (r.filter fun p => p.1 != I) line col qual ps := by
  rcases x with x | ⟨c', oc, vs, t, e, m, dd, q, hn⟩
  · exact .inl x
  · exact .inr ⟨c', oc, vs, t, e, List.mem_filter.mpr ⟨m, by
      have : c' ≠ I := fun e => hn (by simp [e])
      simpa using this⟩, dd, q, fun h => hn (.tail _ h)⟩
theorem mem_cut {p : Addr × Obj} {r : List (Addr × Obj)} : p ∈ (r.filter fun p => p.1 != P) ↔ p ∈ r ∧ p.1 ≠ P := by simp
end
section
variable {prog : Program} {w : World} {A : Around} {E : Value → Shared → Prop} {s : Shared} {h₀ : Heap} {L : Addr} {m : Str → Option Value} {env : Env} {ct iter : Expr} {x : Str} {px py pos : Pos} {scope : Scope} {cl : List (Str × Addr)}
/-- [X for X in L if TEST] over a list of ints of the ledger -/
theorem comp_filter {news : List (Addr × Obj)} {l : Addr} {vs : List Value} {ns : List Int} {e : Nat} {Q : Value → Shared → Prop} (p : Int → Bool)
    (hh : A.handled = none) (hclos : closureFor scope env = pure cl) (hcell : ∀ z ∈ scope.names, z.2 ≠ .cell) (hkind : scope.kind = .function)
    (hnames : ∀ z ∈ scope.names, z.2 = .local → scope.names.lookup z.1 = some .local) (hx : scope.names.lookup x = some .local) (hxd : (x == ("__debug__" : Str)) = false)
    (F : Fr h₀ L s.heap m) (N : News h₀ L s.heap news) (hm : (l, W.listOf vs.toArray e) ∈ news) (hi : IntsAre vs ns) (hz : ns.length ≤ 100000)
    (hit : ∀ Q' : Value → Shared → Prop, Q' (.ref l) s → wpAny (model prog w) A (eval iter env) Q' E s)
    (test : ∀ n t C oC m₂ h tk (E' : Value → Shared → Prop), n ∈ ns → LCg.NsObj oC m₂ → m₂ x = some (.int n t) → Fr h₀ L h m → News h₀ L h ((C, oC) :: news) →
      wpAny (model prog w) A (isTrue ct (compEnvC scope cl C env) (eval ct (compEnvC scope cl C env))) (fun ok s' => ok = p n ∧ ∃ tk', s' = { s with heap := h, toks := tk' }) E' { s with heap := h, toks := tk })
    (k : ∀ D h tk ys, Fr h₀ L h m → News h₀ L h ((D, LCg.lst ys) :: news) → (∀ p ∈ news, p.1 ≠ D) → IntsAre ys (ns.filter p) → Q (.ref D) { s with heap := h, toks := tk })
    (hs : ∀ z, foldedSetIterable iter env z = pure z) :
    wpAny (model prog w) A (eval (.ListComp (.Name x py) [⟨.Name x px, iter, [ct], 0⟩] scope pos) env) Q E s := by
  refine LCt.ListComp_T (F₀ := F) hclos hcell hkind hnames hx (hit _ ?_) hs
  have hvl : vs.length = ns.length := hi.length
  refine LCt.CompSrcT.ledger hh F N hm (by rw [List.size_toArray, hvl, sizeLine_eq]; exact Nat.le_trans hz (by decide)) fun g => ?_
  refine compT_ind (fun i ys nw => nw = news ∧ IntsAre ys ((ns.take i).filter p)) ?_ ?_ ⟨rfl, .nil⟩
  · rintro i ys nw hin ⟨rfl, hy⟩ v I oI C oC D m₂ h tk E' hv hC hxx F1 N1 off ne
    obtain ⟨n, t, hn, rfl⟩ := ints_at hi (by simpa using hv)
    refine wpAny_mono (test n t C oC m₂ h tk E' (List.mem_of_getElem? hn) hC hxx F1 fun p hp => N1 p (by
      simp only [List.mem_cons] at hp ⊢; rcases hp with h | h <;> simp [h])) (fun ok s' hq => ?_) fun _ _ e => e
    obtain ⟨rfl, tk', rfl⟩ := hq
    have hS : LCg.SrcAt h₀ l vs.toArray nw := .inr ⟨_, hm, rfl, _, rfl⟩
    cases hp : p n with
    | true =>
      simp only [if_true]
      refine LCgL.ld_own N1 (.tail _ (.head _)) hC hxx ?_ hkind (lookup_relabel_local hx) hxd
      refine LCg.CompEnd.intro F1 N1 nw (fun p hp => hp) off hS ⟨rfl, ?_⟩
      rw [List.take_add_one, hn, List.filter_append]
      simpa [hp] using IntsAre.append hy (.cons n t .nil)
    | false =>
      simp only [Bool.false_eq_true, if_false]
      refine LCg.CompEnd.intro F1 N1 nw (fun p hp => hp) off hS ⟨rfl, ?_⟩
      rw [List.take_add_one, hn, List.filter_append]
      simpa [hp] using hy
  · rintro ys nw ⟨rfl, hy⟩ D h tk F1 N1 o1
    refine k D h tk ys F1 N1 (off1_mem o1) ?_
    rw [List.size_toArray, hvl, List.take_length] at hy
    exact hy
end
end
-- part MM
section
section
variable {prog : Program} {w : World} {A : Around} {E : Value → Shared → Prop} {s : Shared} {env : Env} {h₀ : Heap} {body : List Stmt} {Q : Flow → Shared → Prop}
theorem listTurns {elts : List Expr} {kk : Nat} {tpos : Pos} (hh : A.handled = none) (I l : Addr) (hne : l ≠ I) (items : Array Value) (hall : ∀ (i : Nat) (v : Value), items[i]? = some v → ∃ T, v = Value.ref T) :
    KTurns prog w A (.Tuple elts kk tpos) I [I, l] [I] items.size (fun i v _ => items[i]? = some v) (fun i v h => items[i]? = some v ∧ h.IsListIter I l (i + 1) ∧ h.IsList l items) (fun i h => h.IsListIter I l i ∧ h.IsList l items) where
  sub := (Walks.list hh I l hne items : Walks prog w A I _ _ _ _ _).sub
  frame := (Walks.list hh I l hne items : Walks prog w A I _ _ _ _ _).frame
  item := fun i s Q E hi st hQ => (Walks.list hh I l hne items).item i s Q E hi st fun v h' tk hP st' hk => hQ v h' tk ⟨hP, st'⟩ hk
  go := fun i v s Q E hm hQ => by
    obtain ⟨hx, h1, h2⟩ := hm
    obtain ⟨T, rfl⟩ := hall i v hx
    exact wpAny_letOwnedTupleGo_listiter h1 (hQ s.heap hx ⟨h1, h2⟩ fun _ _ _ e => e)
  done := (Walks.list hh I l hne items).done
theorem quad_split {h : Heap} {L l D1 D2 D3 D4 : Addr} {p1 q1 p2 q2 p3 q3 p4 q4 : Int} {a1 b1 a2 b2 a3 b3 a4 b4 : Tok} {e : Nat} {r : List (Addr × Obj)}
    (N : News h₀ L h ((l, W.listOf #[Value.ref D1, Value.ref D2, Value.ref D3, Value.ref D4] e) :: (D4, { cls := .type "tuple", data := .seq #[.int p4 a4, .int q4 b4] }) :: (D3, { cls := .type "tuple", data := .seq #[.int p3 a3, .int q3 b3] }) :: (D2, { cls := .type "tuple", data := .seq #[.int p2 a2, .int q2 b2] }) :: (D1, { cls := .type "tuple", data := .seq #[.int p1 a1, .int q1 b1] }) :: r)) :
    ∃ vs base, News h₀ L h base ∧ (l, W.listOf (List.toArray vs) e) ∈ base ∧ (∀ v ∈ vs, ∃ T, v = Value.ref T) ∧
      (∀ (i : Nat) T, vs[i]? = some (Value.ref T) → ∃ x ∈ [(p1, q1), (p2, q2), (p3, q3), (p4, q4)], ∃ t u, (T, ({ cls := .type "tuple", data := .seq #[.int x.1 t, .int x.2 u] } : Obj)) ∈ base) ∧ (∀ p ∈ r, p ∈ base) := by
  refine ⟨[Value.ref D1, Value.ref D2, Value.ref D3, Value.ref D4], _, N, .head _, by simp, fun i T hi => ?_, fun p hp => .tail _ (.tail _ (.tail _ (.tail _ (.tail _ hp))))⟩
  match i, hi with
  | 0, hi => cases hi; exact ⟨_, .head _, _, _, .tail _ (.tail _ (.tail _ (.tail _ (.head _))))⟩
  | 1, hi => cases hi; exact ⟨_, .tail _ (.head _), _, _, .tail _ (.tail _ (.tail _ (.head _)))⟩
  | 2, hi => cases hi; exact ⟨_, .tail _ (.tail _ (.head _)), _, _, .tail _ (.tail _ (.head _))⟩
  | 3, hi => cases hi; exact ⟨_, .tail _ (.tail _ (.tail _ (.head _))), _, _, .tail _ (.head _)⟩
  | i + 4, hi => simp at hi
/-- for A, B in L, L a list of tuples of the ledger -/
theorem pairs_loop {elts : List Expr} {kk : Nat} {tpos : Pos} {l : Addr} {vs : List Value} {ed : Nat} {m : Str → Option Value} {news : List (Addr × Obj)}
    (hh : A.handled = none) (F : Fr h₀ env.locals s.heap m) (N : News h₀ env.locals s.heap news) (hm : (l, W.listOf vs.toArray ed) ∈ news) (hall : ∀ v ∈ vs, ∃ T, v = Value.ref T)
    (J : Nat → (Str → Option Value) → List (Addr × Obj) → Prop) (h0 : J 0 m news) (hkeep : ∀ i m n, J i m n → (l, W.listOf vs.toArray ed) ∈ n)
    (step : ∀ I, (∀ p ∈ news, p.1 < I) → ∀ i T m₁ news₁ h₁ tk₁ oI, vs[i]? = some (.ref T) → J i m₁ news₁ → (∀ p ∈ news₁, p.1 ≠ I) → Fr h₀ env.locals h₁ m₁ → News h₀ env.locals h₁ ((I, oI) :: news₁) →
      wpAny (model prog w) A (assign (.Tuple elts kk tpos) env (.ref T)) (fun _ s₂ => wpAny (model prog w) A (execs body env) (PostI h₀ env.locals I oI (J (i + 1)) { s with heap := h₁, toks := tk₁ } Q) E s₂) E { s with heap := h₁, toks := tk₁ })
    (done : ∀ h' tk m' news', Fr h₀ env.locals h' m' → News h₀ env.locals h' news' → J vs.length m' news' → Q .next { s with heap := h', toks := tk }) :
    wpAny (model prog w) A (pyIter (.ref l)) (fun it s₂ => TurnsAt prog w A h₀ env (.Tuple elts kk tpos) body Q E it s₂) E s := by
  have hax := N _ hm
  have hl : s.heap.IsList l vs.toArray := ⟨_, hax.1, rfl, ed, rfl⟩
  have hlt := Heap.lt_size hax.1
  refine wpAny_pyIter_list hl ?_
  have hlen : vs.toArray.size = vs.length := by simp
  have hlN : ∀ p ∈ news, p.1 < s.heap.objs.size := fun p hp => Heap.lt_size (N p hp).1
  have hall' : ∀ (i : Nat) (v : Value), vs.toArray[i]? = some v → ∃ T, v = Value.ref T := fun i v hv => hall v (List.mem_of_getElem? (i := i) (by simpa using hv))
  refine turnsAt_of [(l, W.listOf vs.toArray ed)] (listTurns hh s.heap.objs.size l (Nat.ne_of_lt hlt) vs.toArray hall') (by simp) (fun b hb => ?_) (next_is_new F) (Nat.ne_of_lt F.ns.lt) (fun p hp => Nat.ne_of_lt (hlN p hp))
    ⟨⟨_, Heap.get?_push_size _ rfl, rfl, rfl⟩, hl.push _⟩ (fun i h st => let ⟨⟨o, ho, _⟩, _⟩ := st; ⟨o, ho⟩) (F.push _) (fun p hp => ⟨Heap.get?_push_of_some _ (N p hp).1, (N p hp).2⟩) J h0 (fun i m n hJ p hp => by rw [List.mem_singleton.mp hp]; exact hkeep i m n hJ) ?_ (fun h' tk m' news' F' N' hJ => done h' tk m' news' F' N' (hlen ▸ hJ))
  · have hb' : b = s.heap.objs.size ∨ b = l := by simpa using hb
    rcases hb' with e | e
    · exact .inl e
    · exact .inr (.inl ⟨_, by rw [e]; exact .head _⟩)
  · rintro i v m₁ news₁ h₁ tk₁ oI hin hv hJ hoff F₁ N₁
    obtain ⟨T, rfl⟩ := hall' i v hv
    exact step _ hlN i T m₁ news₁ h₁ tk₁ oI (by simpa using hv) hJ hoff F₁ N₁
end
end
end Mine
local macro_rules | `(tactic| walk_at "mine6") => `(tactic| repeat' ((fail_if_success (with_reducible show PostI _ _ _ _ _ _ _ _ _)); (fail_if_success (with_reducible show wpAny _ _ (exec (Stmt.For _ _ _ _ _) _) _ _ _)); (fail_if_success (with_reducible show wpAny _ _ (subscriptTail _ _ (Value.ref _) _) _ _ _)); (fail_if_success (with_reducible show wpAny _ _ (PySem.call (Value.ref _) _ _) _ _ _)); (fail_if_success (with_reducible show wpAny _ _ (eval (Expr.Name _ _) (compEnvC _ _ _ _)) _ _ _)); (fail_if_success (with_reducible show wpAny _ _ (eval (Expr.Name (Str.ofString "bound") _) _) _ _ _)); (fail_if_success (with_reducible show wpAny _ _ (truthy (Value.bool _)) _ _ _)); (fail_if_success (with_reducible show wpAny _ _ (PySem.call (Value.builtin "len") _ _) _ _ _)); (fail_if_success (with_reducible show wpAny _ _ (getMethod (Value.ref _) _ _) _ _ _)); (fail_if_success (with_reducible show wpAny _ _ (PySem.call (Value.builtin "dict.get") _ _) _ _ _)); (fail_if_success (with_reducible show wpAny _ _ (PySem.call (Value.builtin "sorted") _ _) _ _ _)); (fail_if_success (with_reducible show wpAny _ _ (PySem.call (Value.type "list") _ _) _ _ _)); (fail_if_success (with_reducible show wpAny _ _ (compareOp CmpOp.NotEq (Value.ref _) (Value.ref _)) _ _ _)); (fail_if_success (with_reducible show LCt.CompSrcT _ _ _ _ _ _ _ _ _ _ _ _ _ _ _)); (fail_if_success (with_reducible show LCg.CompSrc _ _ _ _ _ _ _ _ _ _ _ _ _ _)); (fail_if_success (with_reducible show wpAny _ _ (eval (Expr.ListComp _ _ _ _) _) _ _ _)); first | (k_unfold; (try dsimp only)) | (k_end; wrow_close) | walk1 | (dsimp only; walk1) | (leave1; walk_say "STEP leave1"; try dsimp only)))
local macro_rules | `(tactic| walk_at "mine8") => `(tactic| repeat' ((fail_if_success (with_reducible show PostI _ _ _ _ _ _ _ _ _)); (fail_if_success (with_reducible show wpAny _ _ (exec (Stmt.For _ _ _ _ _) _) _ _ _)); (fail_if_success (with_reducible show wpAny _ _ (subscriptTail _ _ (Value.ref _) _) _ _ _)); (fail_if_success (with_reducible show wpAny _ _ (PySem.call (Value.ref _) _ _) _ _ _)); (fail_if_success (with_reducible show wpAny _ _ (eval (Expr.Name _ _) (compEnvC _ _ _ _)) _ _ _)); (fail_if_success (with_reducible show wpAny _ _ (eval (Expr.Name (Str.ofString "bound") _) _) _ _ _)); (fail_if_success (with_reducible show wpAny _ _ (truthy (Value.bool _)) _ _ _)); (fail_if_success (with_reducible show wpAny _ _ (PySem.call (Value.builtin "len") _ _) _ _ _)); (fail_if_success (with_reducible show wpAny _ _ (getMethod (Value.ref _) _ _) _ _ _)); (fail_if_success (with_reducible show wpAny _ _ (PySem.call (Value.builtin "dict.get") _ _) _ _ _)); (fail_if_success (with_reducible show wpAny _ _ (PySem.call (Value.builtin "sorted") _ _) _ _ _)); (fail_if_success (with_reducible show wpAny _ _ (PySem.call (Value.type "list") _ _) _ _ _)); (fail_if_success (with_reducible show wpAny _ _ (compareOp CmpOp.NotEq (Value.ref _) (Value.ref _)) _ _ _)); (fail_if_success (with_reducible show wpAny _ _ (PySem.call (Value.builtin "sum") _ _) _ _ _)); (fail_if_success (with_reducible show wpAny _ _ (binaryOp Operator.Mult _ _) _ _ _)); (fail_if_success (with_reducible show LCt.CompSrcT _ _ _ _ _ _ _ _ _ _ _ _ _ _ _)); (fail_if_success (with_reducible show LCg.CompSrc _ _ _ _ _ _ _ _ _ _ _ _ _ _)); (fail_if_success (with_reducible show wpAny _ _ (eval (Expr.ListComp _ _ _ _) _) _ _ _)); first | (k_unfold; (try dsimp only)) | (k_end; wrow_close) | walk1 | (dsimp only; walk1) | (leave1; walk_say "STEP leave1"; try dsimp only)))
local macro_rules | `(tactic| walk_at "mine9") => `(tactic| repeat' ((fail_if_success (with_reducible show PostI _ _ _ _ _ _ _ _ _)); (fail_if_success (with_reducible show wpAny _ _ (exec (Stmt.For _ _ _ _ _) _) _ _ _)); (fail_if_success (with_reducible show wpAny _ _ (subscriptTail _ _ (Value.ref _) _) _ _ _)); (fail_if_success (with_reducible show wpAny _ _ (PySem.call (Value.ref _) _ _) _ _ _)); (fail_if_success (with_reducible show wpAny _ _ (eval (Expr.Name _ _) (compEnvC _ _ _ _)) _ _ _)); (fail_if_success (with_reducible show wpAny _ _ (eval (Expr.Name (Str.ofString "bound") _) _) _ _ _)); (fail_if_success (with_reducible show wpAny _ _ (truthy (Value.bool _)) _ _ _)); (fail_if_success (with_reducible show wpAny _ _ (PySem.call (Value.builtin "len") _ _) _ _ _)); (fail_if_success (with_reducible show wpAny _ _ (getMethod (Value.ref _) _ _) _ _ _)); (fail_if_success (with_reducible show wpAny _ _ (PySem.call (Value.builtin "dict.get") _ _) _ _ _)); (fail_if_success (with_reducible show wpAny _ _ (PySem.call (Value.builtin "sorted") _ _) _ _ _)); (fail_if_success (with_reducible show wpAny _ _ (PySem.call (Value.type "list") _ _) _ _ _)); (fail_if_success (with_reducible show wpAny _ _ (compareOp CmpOp.NotEq (Value.ref _) (Value.ref _)) _ _ _)); (fail_if_success (with_reducible show wpAny _ _ (PySem.call (Value.builtin "sum") _ _) _ _ _)); (fail_if_success (with_reducible show wpAny _ _ (binaryOp Operator.Mult _ _) _ _ _)); (fail_if_success (with_reducible show wpAny _ _ (pyIter (Value.ref _)) _ _ _)); (fail_if_success (with_reducible show LCt.CompSrcT _ _ _ _ _ _ _ _ _ _ _ _ _ _ _)); (fail_if_success (with_reducible show LCg.CompSrc _ _ _ _ _ _ _ _ _ _ _ _ _ _)); (fail_if_success (with_reducible show wpAny _ _ (eval (Expr.ListComp _ _ _ _) _) _ _ _)); first | (k_unfold; (try dsimp only)) | (k_end; wrow_close) | walk1 | (dsimp only; walk1) | (leave1; walk_say "STEP leave1"; try dsimp only)))
local macro_rules | `(tactic| walk_at "mine7") => `(tactic| repeat' ((with_reducible show wpAny _ _ _ _ _ _); (fail_if_success (with_reducible show wpAny _ _ (eval (Expr.Name _ _) (compEnvC _ _ _ _)) _ _ _)); (fail_if_success (with_reducible show wpAny _ _ (eval (Expr.Name (Str.ofString "bound") _) _) _ _ _)); (fail_if_success (with_reducible show wpAny _ _ (binaryOp Operator.Mult _ _) _ _ _)); (fail_if_success (with_reducible show wpAny _ _ (subscriptTail _ _ (Value.ref _) _) _ _ _)); first | walk1 | (dsimp only; walk1)))
open Mine
set_option maxHeartbeats 8000000 in
theorem PySem.Challenge.cw_hz0002_01_holds : PySem.Challenge.rw_hz0002_01.Holds := by
  apply Mine.hd
  k_go0
  all_goals (try k_fold)
  walk_at "mine6"
  rename_i h1 ob F1 N1 db
  rename Below _ _ _ _ => B1
  rename Top _ _ _ _ _ _ => T1
  rename Frag.In _ _ => X1
  rename 51 < _ ∧ 44 < _ => l0
  rename CodeHd _ (48, 44).1 (48, 44).2 => C44
  rename CodeHd _ (55, 51).1 (55, 51).2 => C51
  rename_i L0 _ _ _ _ _
  obtain ⟨b, tb, hdb, hb0, hb1⟩ : ∃ b tb, ob.data = .cell (some (.int b tb)) ∧ 4 ≤ b ∧ b ≤ 16 := ⟨_, _, db, by
    have := Int.fmod_nonneg_of_pos (List.sum (α := Int) ‹List Int›) (b := 13) (by decide); omega, by
    have := Int.fmod_lt_of_pos (List.sum (α := Int) ‹List Int›) (b := 13) (by decide); omega⟩
  obtain ⟨m0, F2⟩ : ∃ m0, Fr _ _ h1 m0 := ⟨_, F1⟩
  clear F1 db
  refine nameX_C N1 (by rfl) (.head _) hdb ?_ (by rfl) (by rfl)
  walk_at "mine6"
  refine law_twos_K B1 F2 X1 N1 T1 rfl rfl rfl rfl (by dsimp only [Around.deeper, recursionLimit]; decide) (by dsimp only [Around.deeper, callerA, cLine]; omega) hb0 hb1 fun h3 tk3 news3 dt ot F3 N3 hsub3 hdt lo3 D3 => ?_
  walk_at "mine6"
  rename News _ _ _ _ => N4
  refine nameX_C N4 (by rfl) (hsub3 _ (.head _)) hdb ?_ (by rfl) (by rfl)
  walk_at "mine6"
  rename Fr _ _ _ _ => F4
  refine law_fours_K (f := twosT b) B1 F4 X1 N4 T1 rfl rfl rfl rfl (by dsimp only [Around.deeper, recursionLimit]; decide) (by dsimp only [Around.deeper, callerA, cLine]; omega) hb0 hb1 hdt lo3 D3 (twosT_len hb0 hb1) (twosT_bnd hb0 hb1) fun h5 tk5 news5 df of' F5 N5 hsub5 hdf lo5 D5 => ?_
  walk_at "mine6"
  rename Fr _ _ _ _ => F6
  rename News _ _ _ _ => N6
  refine count_calls_K (f := twosT b) B1 F6 X1 N6 T1 rfl rfl rfl rfl (by dsimp only [Around.deeper, recursionLimit]; decide) (by dsimp only [Around.deeper, callerA, cLine]; omega) (hsub5 _ hdt) lo3 (D3.mono hsub5) fun h7 tk7 t7 F7 N7 => ?_
  walk_at "mine6"
  rename Fr _ _ _ _ => F8
  rename News _ _ _ _ => N8
  have mB : (_, ob) ∈ news5 := hsub5 _ (hsub3 _ (.head _))
  refine comp2_rule (n := 9) (b0 := 0 - 4) (b1 := 5) (fun i j => decide ((0 - 4 + (i : Int)) * (0 - 4 + (i : Int)) + (0 - 4 + (j : Int)) * (0 - 4 + (j : Int)) ≤ b)) rfl (by with_unfolding_all rfl) (by decide) (by rfl) (by decide) (by rfl) (by rfl) (by decide) (by decide) (by decide) (by decide) F8 N8 ?_ ?_ ?_ ?_ (by intro _; rfl) (by intro _ _; rfl)
  · intro Q' hQ
    walk_at "mine7"
    rename Fr _ _ _ _ => F9
    rename News _ _ _ _ => N9
    rename IsRange _ _ _ _ _ _ _ _ => rg
    exact hQ _ _ _ _ _ _ F9 N9 rg
  · intro C oC m₂ h tk E' Q' hC F9 N9 hQ
    walk_at "mine7"
    refine LCgL.ld_built F9 X1 T1 (by with_unfolding_all rfl) boot_range (by decide) ?_
    walk_at "mine7"
    rename Fr _ _ _ _ => F10
    rename IsRange _ _ _ _ _ _ _ _ => rg
    exact hQ _ _ _ _ _ _ F10 (by assumption) rg
  · intro i j ti tj C oC m₂ h tk E' hi hj hC hx hy F9 N9
    obtain ⟨u, hu⟩ : ∃ u, u = 0 - 4 + (i : Int) := ⟨_, rfl⟩
    obtain ⟨v, hv⟩ : ∃ v, v = 0 - 4 + (j : Int) := ⟨_, rfl⟩
    rw [← hu] at hx ⊢
    rw [← hv] at hy ⊢
    have hu0 : -4 ≤ u := by omega
    have hu1 : u ≤ 4 := by omega
    have hv0 : -4 ≤ v := by omega
    have hv1 : v ≤ 4 := by omega
    walk_at "mine7"
    refine LCgL.ld_own N9 (.head _) hC hx ?_
    walk_at "mine7"
    refine LCgL.ld_own N9 (.head _) hC hx ?_
    walk_at "mine7"
    refine mulV (v := u * u) rfl (by mul_fits) ?_
    walk_at "mine7"
    refine LCgL.ld_own N9 (.head _) hC hy ?_
    walk_at "mine7"
    refine LCgL.ld_own N9 (.head _) hC hy ?_
    walk_at "mine7"
    refine mulV (v := v * v) rfl (by mul_fits) ?_
    walk_at "mine7"
    refine kcf_cell N9 (by rfl) (.tail _ mB) hdb ?_
    walk_at "mine7"
    exact ⟨rfl, _, rfl⟩
  intro Dc h9 tk9 ys9 F9 N9 off9 hl9
  dsimp only
  walk_at "mine6"
  refine PySem.Calls.call_len_list (News.isList N9 (.head _)) (by rw [List.size_toArray, hl9]; exact Int.lt_of_le_of_lt (Int.ofNat_le.mpr (tot2_le 9 _ 9)) (by decide)) ?_
  walk_at "mine6"
  walk1
  refine ite_neg (by rw [List.size_toArray, hl9, count_fact hb0 hb1]; simp) ?_
  walk_at "mine6"
  replace N9 : News _ _ h9 news5 := fun p hp => N9 p (.tail _ hp)
  refine tab_method PySem.F.slot_dict_get PySem.F.type_dict_get N9 hdf D5 ?_
  walk_at "mine6"
  rename Fr _ _ _ _ => F10
  rename News _ _ _ _ => N10
  refine tab_get (n := 0) (by dsimp only [Around.deeper, callerA, cLine]; omega) N10 (.tail _ hdf) lo5 (D5.mono fun p hp => .tail _ hp) (.head _) ⟨rfl, _, _, _, _, rfl⟩ fun t10 => ?_
  rw [four_zero hb0 hb1]
  replace N10 : News _ _ _ news5 := fun p hp => N10 p (.tail _ hp)
  walk_at "mine6"
  walk1
  walk_at "mine6"
  rename Fr _ _ _ _ => F11
  refine comp_keys (f := foursT b (twosT b)) rfl (by with_unfolding_all rfl) (by decide) (by rfl) (by decide) (by rfl) F11 N10 hdf lo5 D5 (four_len hb0 hb1) ?_ ?_ ?_ (by intro _; rfl)
  · intro Q' hQ
    walk_at "mine7"
    exact hQ
  · intro k a ok C oC m₂ h tk E' Q' hQ hak hkk hC hx F12 N12
    walk_at "mine7"
    refine LCgL.ld_own N12 (.head _) hC hx ?_
    walk_at "mine7"
    obtain ⟨_, _, _, hTa⟩ := hkk.isTup (N12.get (.tail _ hak))
    refine item_tupleT hTa (j := 1) (by decide) (by decide) (by rfl) (by rfl) ?_
    exact hQ _ _
  intro Dk h13 tk13 ys13 F13 N13 off13 hi13
  dsimp only
  walk_at "mine6"
  refine sorted_N F13 N13 (News.isList N13 (.head _)) hi13 (by rw [hi13.length, List.length_map]; have := four_len20 hb0 hb1; omega) fun h14 vs14 ns14 e14 F14 N14 hi14 hp14 hs14 => ?_
  have hns := keys_sorted hb0 hb1 hp14 hs14
  walk_at "mine6"
  rename Fr _ _ _ _ => F15
  rename News _ _ _ _ => N15
  refine nameX_C N15 (by rfl) (.tail _ (.tail _ mB)) hdb ?_ (by rfl) (by rfl)
  walk_at "mine6"
  rename Fr _ _ _ _ => F16
  rename News _ _ _ _ => N16
  rename IsRange _ _ _ _ _ _ _ _ => rg16
  refine kll_range (n := (b + 1).toNat) rfl F16 N16 rg16 (small_one (by omega) (by omega) (by omega) (by omega)) (by rw [rangeSize_nat]; omega) (Nat.le_trans (by omega : (b + 1).toNat ≤ 17) (by decide)) fun D17 us17 c17 h17 tk17 F17 N17 l17 hi17 => ?_
  walk_at "mine6"
  refine ne_intsK (News.isList N17 (.tail _ (.head _))) hi14 (News.isList N17 (.head _)) hi17 (by dsimp only [Around.deeper, callerA, cLine]; omega) ?_
  rw [hns]
  walk_at "mine6"
  walk1
  refine ite_neg (by simp) ?_
  replace N17 : News _ _ h17 news5 := fun p hp => N17 p (.tail _ (.tail _ (.tail _ hp)))
  walk_at "mine6"
  have h44 : (44, tabObj #[]) ∈ news5 := hsub5 _ (hsub3 _ (by simp))
  have h51 : (51, tabObj #[]) ∈ news5 := hsub5 _ (hsub3 _ (by simp))
  have D3' := D3.mono hsub5
  have hdt' := hsub5 _ hdt
  have N17f : News _ _ h17 (news5.filter fun p => p.1 != 44) := fun p hp => N17 p (mem_cut.mp hp).1
  have h51f : (51, tabObj #[]) ∈ (news5.filter fun p => p.1 != 44) := mem_cut.mpr ⟨h51, neN (by omega)⟩
  obtain ⟨R0, hR0⟩ : ∃ R0, R0 = (news5.filter fun p => p.1 != 44).filter fun p => p.1 != 51 := ⟨_, rfl⟩
  have DT := (D3'.cut N17 h44).cut N17f h51f
  rw [← hR0] at DT
  have DF := (D5.cut N17 h44).cut N17f h51f
  rw [← hR0] at DF
  have hR0m : ∀ p, p ∈ R0 ↔ p ∈ news5 ∧ p.1 ≠ 44 ∧ p.1 ≠ 51 := by
    intro p; rw [hR0, mem_cut, mem_cut]; exact and_assoc
  have rT : (dt, ot) ∈ R0 := (hR0m _).mpr ⟨hdt', DictO.off N17 h44 hdt' D3', DictO.off N17 h51 hdt' D3'⟩
  have rF : (df, of') ∈ R0 := (hR0m _).mpr ⟨hdf, DictO.off N17 h44 hdf D5, DictO.off N17 h51 hdf D5⟩
  have l051 := ltN l0.1
  have l044 := ltN l0.2
  have rB : (_, ob) ∈ R0 := (hR0m _).mpr ⟨mB, neN (by omega), neN (by omega)⟩
  have N18 : News _ _ h17 ((44, tabObj #[]) :: (51, tabObj #[]) :: R0) := fun p hp => N17 p (by
    simp only [List.mem_cons] at hp
    rcases hp with rfl | rfl | h
    · exact h44
    · exact h51
    · exact ((hR0m p).mp h).1)
  clear N17f h51f hR0 D3' D5 D3
  rename Fr _ _ _ _ => F18
  with_unfolding_all refine' For_turns F18 ?_
  walk_at "mine6"
  refine nameX_C N18 (by rfl) (.tail _ (.tail _ rB)) hdb ?_ (by rfl) (by rfl)
  walk_at "mine6"
  rename Fr _ _ _ _ => F19
  rename News _ _ _ _ => N19
  rename IsRange _ _ _ _ _ _ _ _ => rg19
  obtain ⟨J, hJ⟩ : ∃ J : Nat → (Str → Option Value) → List (Addr × Obj) → Prop, J = fun i m n => ∃ q1 q2 r, n = (44, tabObj q1) :: (51, tabObj q2) :: r ∧ (∀ p ∈ r, p.1 ≠ 44 ∧ p.1 ≠ 51) ∧ TabOk [] r 51 4 (Str.ofString "_int2digits.<locals>.inner") q1 ∧ TabOk [] r 66 4 (Str.ofString "_digits2int.<locals>.inner") q2 ∧ (∀ p ∈ R0, p ∈ r) ∧ m (Str.ofString "twos") = some (.ref dt) ∧ m (Str.ofString "fours") = some (.ref df) := ⟨_, rfl⟩
  refine range_loop (n := b.toNat) rfl (by rfl) (by rfl) rg19 (small_one (by omega) (by omega) (by omega) (by omega)) (by rw [rangeSize_nat]; omega) F19 N19 J ?_ ?_ ?_
  · rw [hJ]
    exact ⟨#[], #[], R0, rfl, fun p hp => ((hR0m p).mp hp).2, .inl rfl, .inl rfl, fun p hp => hp, by rfl, by rfl⟩
  · rw [hJ]
    rintro I hI i t m₁ news₁ h₁ tk₁ oI hi ⟨q1, q2, r, rfl, offr, tbq1, tbq2, hsubr, hm1, hm2⟩ hoffI F20 N20
    obtain ⟨v, hv⟩ : ∃ v : Int, v = 1 + (i : Int) := ⟨_, rfl⟩
    have hv1 : 1 ≤ v := by omega
    have hv2 : v ≤ b := by omega
    rw [← hv] at F20
    replace F20 : Fr _ _ h₁ _ := known3 F20 (x := Str.ofString "number") (v := .int v t) (y := Str.ofString "twos") (u := .ref dt) (z := Str.ofString "fours") (r := .ref df) (by rw [if_pos rfl]) (by rw [if_neg (by decide)]; exact hm1) (by rw [if_neg (by decide)]; exact hm2)
    have N21 : News _ _ h₁ ((44, tabObj q1) :: (51, tabObj q2) :: (I, oI) :: r) := fun p hp => N20 p (by
      simp only [List.mem_cons] at hp ⊢; rcases hp with h | h | h | h <;> simp [h])
    clear N20 F19 N19 rg19
    walk_at "mine8"
    refine law_into_K (bx := [I]) B1 F20 X1 N21 T1 rfl rfl rfl rfl (by dsimp only [Around.deeper, recursionLimit]; decide) (by dsimp only [Around.deeper, callerA, cLine]; omega) C44 C51 (fun p hp => ?_) (fun x hx => ⟨oI, by rw [List.mem_singleton.mp hx]; exact .head _⟩)
      ((tbq1.re fun x hx => .inr fun p hp => by rw [List.mem_singleton.mp hx]; exact hoffI p (.tail _ (.tail _ hp))).mono fun p hp => .tail _ hp) ((tbq2.re fun x hx => .inr fun p hp => by rw [List.mem_singleton.mp hx]; exact hoffI p (.tail _ (.tail _ hp))).mono fun p hp => .tail _ hp) hv1 (by omega)
      fun h22 tk22 q1' q2' r22 la vsL eL F22 N22 hoff22 tb122 tb222 hsub22 hla hiL => ?_
    · rcases List.mem_cons.mp hp with rfl | hp
      · exact ⟨fun e => hoffI (44, tabObj q1) (.head _) e.symm, fun e => hoffI (51, tabObj q2) (.tail _ (.head _)) e.symm⟩
      · exact offr p hp
    walk_at "mine8"
    rename Fr _ _ _ _ => F23
    rename News _ _ _ _ => N23
    have sub22 : ∀ p ∈ R0, p ∈ (44, tabObj q1') :: (51, tabObj q2') :: r22 := fun p hp => .tail _ (.tail _ (hsub22 p (.tail _ (hsubr p hp))))
    have DT2 := DT.mono sub22
    have DF2 := DF.mono sub22
    have rT2 := sub22 _ rT
    have rF2 := sub22 _ rF
    have rL2 : (la, W.listOf vsL.toArray eL) ∈ (44, tabObj q1') :: (51, tabObj q2') :: r22 := .tail _ (.tail _ hla)
    have hlp : (partsOf v).length ≤ 100000 := Nat.le_trans (parts_len hv1 (by omega)) (by decide)
    obtain ⟨so, hso⟩ : ∃ so, so = sumOdd v := ⟨_, rfl⟩
    obtain ⟨hso0, hso1⟩ := sum_bnd hv1 (show v ≤ 16 by omega)
    have hfour := four_at hb0 hb1 hv1 hv2
    rw [← hso] at hso0 hso1 hfour
    refine tab_item (n := v) (c := 8 * so) (by dsimp only [Around.deeper, callerA, cLine]; omega) N23 (.tail _ rF2) (DF2.mono fun p hp => .tail _ hp) (.head _) ⟨rfl, _, _, _, _, rfl⟩ hfour (fun t24 => ?_)
    replace N23 : News _ _ _ ((44, tabObj q1') :: (51, tabObj q2') :: r22) := fun p hp => N23 p (.tail _ hp)
    walk_at "mine8"
    rename Fr _ _ _ _ => F24
    rename News _ _ _ _ => N24
    refine comp_filter (fun d => d.fmod 4 != 0) rfl (by with_unfolding_all rfl) (by decide) (by rfl) (by decide) (by rfl) (by decide) F24 N24 rL2 hiL hlp (fun Q' hQ => ?_) (fun n t C oC m₂ h tk E' hn hC hx Fx Nx => ?_) (fun D h tk ys F25 N25 off25 hy25 => ?_) (by intro _; rfl)
    · walk_at "mine7"
      exact hQ
    · walk_at "mine7"
      refine LCgL.ld_own Nx (.head _) hC hx ?_
      walk_at "mine7"
      exact ⟨rfl, _, rfl⟩
    dsimp only
    walk_at "mine8"
    refine sumK rfl F25 N25 (News.isList N25 (.head _)) hy25 fun h26 tk26 t26 F26 N26 => ?_
    rw [show ((partsOf v).filter fun d => d.fmod 4 != 0).sum = so from hso.symm]
    replace N26 : News _ _ h26 ((44, tabObj q1') :: (51, tabObj q2') :: r22) := fun p hp => N26 p (.tail _ hp)
    walk_at "mine8"
    refine mulV (v := 8 * so) rfl (by mul_fits) ?_
    walk_at "mine8"
    walk1
    refine ite_neg (by simp) ?_
    walk_at "mine8"
    rename Fr _ _ _ _ => F27
    refine comp_filter (fun d => d.fmod 4 == 1) rfl (by with_unfolding_all rfl) (by decide) (by rfl) (by decide) (by rfl) (by decide) F27 N26 rL2 hiL hlp (fun Q' hQ => ?_) (fun n t C oC m₂ h tk E' hn hC hx Fx Nx => ?_) (fun D h tk ys F28 N28 off28 hy28 => ?_) (by intro _; rfl)
    · walk_at "mine7"
      exact hQ
    · walk_at "mine7"
      refine LCgL.ld_own Nx (.head _) hC hx ?_
      walk_at "mine7"
      exact ⟨rfl, _, rfl⟩
    dsimp only
    walk_at "mine8"
    have hb28 : ys.length ≤ 16 := by rw [hy28.length]; exact Nat.le_trans (List.length_filter_le ..) (parts_len hv1 (by omega))
    refine PySem.Calls.call_len_list (News.isList N28 (.head _)) (by rw [List.size_toArray]; omega) ?_
    rw [show ((ys.toArray.size : Nat) : Int) = onesOf v from by rw [List.size_toArray, hy28.length]; rfl]
    replace N28 : News _ _ h ((44, tabObj q1') :: (51, tabObj q2') :: r22) := fun p hp => N28 p (.tail _ hp)
    clear off28 hb28 hy28
    walk_at "mine8"
    rename Fr _ _ _ _ => F29
    refine comp_filter (fun d => d.fmod 4 == 3) rfl (by with_unfolding_all rfl) (by decide) (by rfl) (by decide) (by rfl) (by decide) F29 N28 rL2 hiL hlp (fun Q' hQ => ?_) (fun n t C oC m₂ h tk E' hn hC hx Fx Nx => ?_) (fun D h tk ys F30 N30 off30 hy30 => ?_) (by intro _; rfl)
    · walk_at "mine7"
      exact hQ
    · walk_at "mine7"
      refine LCgL.ld_own Nx (.head _) hC hx ?_
      walk_at "mine7"
      exact ⟨rfl, _, rfl⟩
    dsimp only
    walk_at "mine8"
    have hb30 : ys.length ≤ 16 := by rw [hy30.length]; exact Nat.le_trans (List.length_filter_le ..) (parts_len hv1 (by omega))
    refine PySem.Calls.call_len_list (News.isList N30 (.head _)) (by rw [List.size_toArray]; omega) ?_
    rw [show ((ys.toArray.size : Nat) : Int) = threesOf v from by rw [List.size_toArray, hy30.length]; rfl]
    replace N30 : News _ _ h ((44, tabObj q1') :: (51, tabObj q2') :: r22) := fun p hp => N30 p (.tail _ hp)
    clear off30 hb30 hy30
    obtain ⟨on, hon⟩ : ∃ on, on = onesOf v := ⟨_, rfl⟩
    obtain ⟨th, hth⟩ : ∃ th, th = threesOf v := ⟨_, rfl⟩
    obtain ⟨hon0, hon1, hth0, hth1⟩ := ones_bnd hv1 (show v ≤ 16 by omega)
    have htwo := two_at hb0 hb1 hv1 hv2
    rw [← hon, ← hth] at htwo
    rw [← hon] at hon0 hon1 ⊢
    rw [← hth] at hth0 hth1 ⊢
    walk_at "mine8"
    rename Fr _ _ _ _ => F31
    rename News _ _ _ _ => N31
    replace N31 : News _ _ _ ((44, tabObj q1') :: (51, tabObj q2') :: r22) := fun p hp => N31 p (.tail _ hp)
    refine tab_method PySem.F.slot_dict_get PySem.F.type_dict_get N31 rT2 DT2 ?_
    walk_at "mine8"
    rename Fr _ _ _ _ => F32
    rename News _ _ _ _ => N32
    refine tab_get (n := v) (by dsimp only [Around.deeper, callerA, cLine]; omega) N32 (.tail _ rT2) lo3 (DT2.mono fun p hp => .tail _ hp) (.head _) ⟨rfl, _, _, _, _, rfl⟩ fun t33 => ?_
    rw [htwo]
    replace N32 : News _ _ _ ((44, tabObj q1') :: (51, tabObj q2') :: r22) := fun p hp => N32 p (.tail _ hp)
    walk_at "mine8"
    refine mulV (v := 4 * (on - th)) rfl (by mul_fits) ?_
    walk_at "mine8"
    walk1
    refine ite_neg (by simp) ?_
    walk_at "mine8"
    refine PySem.Calls.call_len_list (News.isList N32 rL2) (by rw [List.size_toArray, hiL.length]; have := parts_len hv1 (show v ≤ 16 by omega); omega) ?_
    rw [show ((vsL.toArray.size : Nat) : Int) = ((partsOf v).length : Int) from by rw [List.size_toArray, hiL.length]]
    walk_at "mine8"
    walk1
    have hIin : (I, oI) ∈ (44, tabObj q1') :: (51, tabObj q2') :: r22 := .tail _ (.tail _ (hsub22 _ (.head _)))
    have hsubE : ∀ p ∈ (44, tabObj q1') :: (51, tabObj q2') :: (r22.filter fun p => p.1 != I), p ∈ (44, tabObj q1') :: (51, tabObj q2') :: r22 := by
      intro p hp
      simp only [List.mem_cons] at hp ⊢
      rcases hp with h | h | h
      · exact .inl h
      · exact .inr (.inl h)
      · exact .inr (.inr (mem_cut.mp h).1)
    have hoffE : ∀ p ∈ (44, tabObj q1') :: (51, tabObj q2') :: (r22.filter fun p => p.1 != I), p.1 ≠ I := by
      intro p hp
      simp only [List.mem_cons] at hp
      rcases hp with rfl | rfl | h
      · exact hoffI (44, tabObj q1) (.head _)
      · exact hoffI (51, tabObj q2) (.tail _ (.head _))
      · exact (mem_cut.mp h).2
    have hoffE2 : ∀ p ∈ (r22.filter fun p => p.1 != I), p.1 ≠ 44 ∧ p.1 ≠ 51 := fun p hp => hoff22 p (mem_cut.mp hp).1
    have hR0E : ∀ p ∈ R0, p ∈ (r22.filter fun p => p.1 != I) := fun p hp => mem_cut.mpr ⟨hsub22 p (.tail _ (hsubr p hp)), hoffI p (.tail _ (.tail _ (hsubr p hp)))⟩
    by_cases hl2 : (partsOf v).length = 2
    · refine ite_pos (by rw [hl2]; rfl) ?_
      walk_at "mine8"
      walk1
      by_cases hgt : 2 < v
      · refine ite_pos (by simpa using hgt) ?_
        walk_at "mine8"
        rename Fr _ _ _ _ => F35
        rename News _ _ _ _ => N35
        refine tab_item (n := v) (c := 8 * so) (by dsimp only [Around.deeper, callerA, cLine]; omega) N35 (.tail _ rF2) (DF2.mono fun p hp => .tail _ hp) (.head _) ⟨rfl, _, _, _, _, rfl⟩ hfour (fun t36 => ?_)
        replace N35 : News _ _ _ ((44, tabObj q1') :: (51, tabObj q2') :: r22) := fun p hp => N35 p (.tail _ hp)
        walk_at "mine8"
        refine mulV (v := 8 * (v + 1)) rfl (by mul_fits) ?_
        have hpr := prime_at hb0 hb1 hv1 hv2 hl2 hgt
        rw [← hso] at hpr
        walk_at "mine8"
        walk1
        refine ite_neg (by simp [hpr]) ?_
        · (walk_at "mine8"
           rename Fr _ _ _ _ => F40
           rename News _ _ _ _ => N40
           refine PostI.next ?_
           exact EndI.intro F40 N40 ((44, tabObj q1') :: (51, tabObj q2') :: r22.filter fun p => p.1 != I) hIin hsubE hoffE ⟨q1', q2', _, rfl, hoffE2, TabOk.drop tb122, TabOk.drop tb222, hR0E, by rfl, by rfl⟩)
      · refine ite_neg (by simpa using hgt) ?_
        · (walk_at "mine8"
           rename Fr _ _ _ _ => F40
           rename News _ _ _ _ => N40
           refine PostI.next ?_
           exact EndI.intro F40 N40 ((44, tabObj q1') :: (51, tabObj q2') :: r22.filter fun p => p.1 != I) hIin hsubE hoffE ⟨q1', q2', _, rfl, hoffE2, TabOk.drop tb122, TabOk.drop tb222, hR0E, by rfl, by rfl⟩)
    · refine ite_neg (by simpa using (by omega : ((partsOf v).length : Int) ≠ 2)) ?_
      · (walk_at "mine8"
         rename Fr _ _ _ _ => F40
         rename News _ _ _ _ => N40
         refine PostI.next ?_
         exact EndI.intro F40 N40 ((44, tabObj q1') :: (51, tabObj q2') :: r22.filter fun p => p.1 != I) hIin hsubE hoffE ⟨q1', q2', _, rfl, hoffE2, TabOk.drop tb122, TabOk.drop tb222, hR0E, by rfl, by rfl⟩)
  · rw [hJ]
    rintro h' tk' m' news' F20 N20 ⟨q1, q2, r, rfl, offr, tbq1, tbq2, hsubr, hm1, hm2⟩
    replace F20 : Fr _ _ h' _ := known2 F20 (x := Str.ofString "twos") (v := .ref dt) (y := Str.ofString "fours") (u := .ref df) hm1 hm2
    replace N20 : News _ _ h' ((44, tabObj q1) :: (51, tabObj q2) :: r) := N20
    clear F19 N19 rg19
    walk_at "mine8"
    with_unfolding_all refine' For_turns F20 ?_
    walk_at "mine9"
    rename Fr _ _ _ _ => F50
    rename News _ _ _ _ => N50
    obtain ⟨vs51, base, N51, hm51, hall51, hT51, hsub51⟩ := quad_split N50
    have sub51 : ∀ p ∈ R0, p ∈ base := fun p hp => hsub51 p (.tail _ (.tail _ (hsubr p hp)))
    have DF5 := DF.mono sub51
    have rF5 := sub51 _ rF
    have rB5 := sub51 _ rB
    clear N50
    refine pairs_loop rfl F50 N51 hm51 hall51 (fun i m n => n = base ∧ m (Str.ofString "fours") = some (.ref df)) ⟨rfl, by rfl⟩ (by rintro i m n ⟨e, _⟩; rw [e]; exact hm51) ?_ ?_
    · rintro I hI i T m₁ news₁ h₁ tk₁ oI hi ⟨e52, hmf⟩ hoffI F52 N52
      rw [e52] at hoffI N52
      obtain ⟨⟨p, q⟩, hx, tp, tq, hTm⟩ := hT51 i T hi
      obtain ⟨hp1, hq1, hp7, hq7, hpq1, hpq2, hpq15, hprod⟩ := prs_fact (p, q) hx
      dsimp only at hp1 hq1 hp7 hq7 hpq1 hpq2 hpq15 hprod hTm
      have hT : IsTup h₁ T #[.int p tp, .int q tq] := ⟨_, N52.get (.tail _ hTm), rfl, _, rfl⟩
      replace F52 : Fr _ _ h₁ _ := known F52 hmf
      obtain ⟨pq, hpq⟩ : ∃ pq, pq = p * q := ⟨_, rfl⟩
      rw [← hpq] at hpq1 hpq2 hpq15 hprod
      obtain ⟨hsp0, hsp1⟩ := sum_bnd hp1 (show p ≤ 16 by omega)
      obtain ⟨hsq0, hsq1⟩ := sum_bnd hq1 (show q ≤ 16 by omega)
      obtain ⟨hsr0, hsr1⟩ := sum_bnd (n := pq) (by omega) (by omega)
      walk_at "mine9"
      refine mulV (v := pq) hpq.symm (by mul_fits) ?_
      walk_at "mine9"
      rename Fr _ _ _ _ => F53
      rename News _ _ _ _ => N53
      refine nameX_C N53 (by rfl) (.tail _ rB5) hdb ?_ (by rfl) (by rfl)
      walk_at "mine9"
      walk1
      obtain ⟨sp, hsp⟩ : ∃ sp, sp = sumOdd p := ⟨_, rfl⟩
      obtain ⟨sq, hsq⟩ : ∃ sq, sq = sumOdd q := ⟨_, rfl⟩
      obtain ⟨sr, hsr⟩ : ∃ sr, sr = sumOdd pq := ⟨_, rfl⟩
      rw [← hsp] at hsp0 hsp1 hprod
      rw [← hsq] at hsq0 hsq1 hprod
      rw [← hsr] at hsr0 hsr1 hprod
      by_cases hle : pq ≤ b
      · have h4p := four_at hb0 hb1 hp1 (show p ≤ b by omega)
        have h4q := four_at hb0 hb1 hq1 (show q ≤ b by omega)
        have h4r := four_at hb0 hb1 (show 1 ≤ pq by omega) hle
        rw [← hsp] at h4p
        rw [← hsq] at h4q
        rw [← hsr] at h4r
        refine ite_pos (by simpa using hle) ?_
        walk_at "mine9"
        rename Fr _ _ _ _ => F54
        rename News _ _ _ _ => N54
        refine tab_item (n := p) (c := 8 * sp) (by dsimp only [Around.deeper, callerA, cLine]; omega) N54 (.tail _ (.tail _ rF5)) (DF5.mono fun p hp => .tail _ (.tail _ hp)) (.head _) ⟨rfl, _, _, _, _, rfl⟩ h4p (fun t55 => ?_)
        replace N54 : News _ _ _ ((I, oI) :: base) := fun p hp => N54 p (.tail _ hp)
        walk_at "mine9"
        rename Fr _ _ _ _ => F55
        rename News _ _ _ _ => N55
        refine tab_item (n := q) (c := 8 * sq) (by dsimp only [Around.deeper, callerA, cLine]; omega) N55 (.tail _ (.tail _ rF5)) (DF5.mono fun p hp => .tail _ (.tail _ hp)) (.head _) ⟨rfl, _, _, _, _, rfl⟩ h4q (fun t56 => ?_)
        replace N55 : News _ _ _ ((I, oI) :: base) := fun p hp => N55 p (.tail _ hp)
        walk_at "mine9"
        refine mulV (v := 8 * sp * (8 * sq)) rfl (by mul_fits) ?_
        walk_at "mine9"
        refine mulV (v := pq) hpq.symm (by mul_fits) ?_
        walk_at "mine9"
        rename Fr _ _ _ _ => F56
        rename News _ _ _ _ => N56
        refine tab_item (n := pq) (c := 8 * sr) (by dsimp only [Around.deeper, callerA, cLine]; omega) N56 (.tail _ (.tail _ rF5)) (DF5.mono fun p hp => .tail _ (.tail _ hp)) (.head _) ⟨rfl, _, _, _, _, rfl⟩ h4r (fun t57 => ?_)
        replace N56 : News _ _ _ ((I, oI) :: base) := fun p hp => N56 p (.tail _ hp)
        walk_at "mine9"
        refine mulV (v := 8 * (8 * sr)) rfl (by mul_fits) ?_
        walk_at "mine9"
        walk1
        refine ite_neg (by simp [hprod]) ?_
        · (walk_at "mine9"
           rename Fr _ _ _ _ => F60
           rename News _ _ _ _ => N60
           refine PostI.next ?_
           exact EndI.intro F60 N60 base (.head _) (fun p hp => .tail _ hp) hoffI ⟨rfl, by rfl⟩)
      · refine ite_neg (by simpa using hle) ?_
        · (walk_at "mine9"
           rename Fr _ _ _ _ => F60
           rename News _ _ _ _ => N60
           refine PostI.next ?_
           exact EndI.intro F60 N60 base (.head _) (fun p hp => .tail _ hp) hoffI ⟨rfl, by rfl⟩)
    · rintro h7 tk7 m7 news7 F70 N70 ⟨e70, hmf⟩
      rw [e70] at N70
      replace F70 : Fr _ _ h7 _ := known F70 hmf
      replace N70 : News _ _ h7 base := N70
      clear N51
      dsimp only
      walk1
      walk1
      walk1
      dsimp only
      refine ⟨?_, ?_⟩
      · refine goodW_bool F70 (by assumption) (raisesW_false ?_) ?_
        · wrow_none_raised
        · wrow_post
      · exact ⟨GrownAt.of N70 (hsub51 _ (.tail _ (.head _))), GrownAt.of N70 (hsub51 _ (.head _)), True.intro⟩
