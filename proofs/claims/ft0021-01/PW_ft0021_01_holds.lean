import PyProof.Rows.All
import Wide.All
import OpenK.AllK
import Wide.FinOn
import Lean
import PySem.Challenge.RW_ft0021_01
set_option Elab.async false
section
open PySem
namespace Mine
set_option maxRecDepth 100000
set_option maxHeartbeats 4000000
/-! ## zip of three whose first has nothing -/
theorem typeCall_zip3 (a b c : Value) : checkTypeCall "zip" ⟨[a, b, c], []⟩ = pure () := by kernel_rfl
theorem newCall_zip3 (a b c : Value) : checkBuiltinCall "zip.__new__" ⟨[.type "zip", a, b, c], []⟩ = pure () := by kernel_rfl
theorem args_init4 (a b c d : Value) : argsOk "object.__init__" ⟨[a, b, c, d], []⟩ := by
  unfold argsOk; rw [signature?_of (id := "object.__init__") (n := ['_', '_', 't', 'i', 'n', 'i', '_', '_']) (o := ['t', 'c', 'e', 'j', 'b', 'o']) (by kernel_rfl) F.owner_object]; kernel_rfl
abbrev zp1 (h : Heap) (a : Addr) : Heap := h.push { cls := .type "tuple_iterator", data := .fields #[.ref a, .int 0 0] }
abbrev zp2 (h : Heap) (a b : Addr) : Heap := (zp1 h a).push { cls := .type "tuple_iterator", data := .fields #[.ref b, .int 0 0] }
abbrev zp3 (h : Heap) (a b c : Addr) : Heap := (zp2 h a b).push { cls := .type "list_iterator", data := .fields #[.ref c, .int 0 0] }
abbrev zp4 (h : Heap) (a b c : Addr) : Heap := (zp3 h a b c).push { cls := .type "tuple", data := .seq #[.ref h.objs.size, .ref (zp1 h a).objs.size, .ref (zp2 h a b).objs.size] }
abbrev zp5 (h : Heap) (a b c : Addr) : Heap := (zp4 h a b c).push { cls := .type "tuple", data := .seq #[.none, .none, .none] }
abbrev zp6 (h : Heap) (a b c : Addr) : Heap := (zp5 h a b c).push { cls := .type "zip", data := .fields #[.none, .bool false, .bool false, .ref (zp3 h a b c).objs.size, .ref (zp4 h a b c).objs.size] }
theorem meets_zip3 (a b c : Addr) (xs ys zs : Array Value) :
    Meets (Builtin.«zip.__new__» ⟨[.type "zip", .ref a, .ref b, .ref c], []⟩) (fun _ R s => s.heap.IsTuple a xs ∧ s.heap.IsTuple b ys ∧ s.heap.IsList c zs ∧
      R (.ok (.ret (.ref (zp5 s.heap a b c).objs.size))) { s with heap := zp6 s.heap a b c }) :=
  .of_wp fun prog w A R s h => by
    obtain ⟨hp, g, d, tk, os⟩ := s; obtain ⟨h1, h2, h3, h⟩ := h
    have hsub := sub_zip
    have L1 : Heap.IsTuple (Shared.heap ⟨hp, g, d, tk, os⟩) a xs := h1
    have L2 : Heap.IsTuple (Shared.heap ⟨hp.push { cls := .type "tuple_iterator", data := .fields #[.ref a, .int 0 0] }, g, d, tk, os⟩) b ys := Heap.IsTuple.push h2 _
    have L3 : Heap.IsList (Shared.heap ⟨(hp.push { cls := .type "tuple_iterator", data := .fields #[.ref a, .int 0 0] }).push { cls := .type "tuple_iterator", data := .fields #[.ref b, .int 0 0] }, g, d, tk, os⟩) c zs := Heap.IsList.push (Heap.IsList.push h3 _) _
    wp_delta
    with_reducible (first | refine wpAny_bind ?_ | refine wpAny_pure ?_ | refine wpAny_holding ?_ | refine wpAny_standAt ?_ | refine wpAny_point ?_ | refine wpAny_rule ?_)
    wp_delta
    with_reducible (first | refine wpAny_bind ?_ | refine wpAny_pure ?_ | refine wpAny_holding ?_ | refine wpAny_standAt ?_ | refine wpAny_point ?_ | refine wpAny_rule ?_)
    wp_delta
    with_reducible (first | refine wpAny_bind ?_ | refine wpAny_pure ?_ | refine wpAny_holding ?_ | refine wpAny_standAt ?_ | refine wpAny_point ?_ | refine wpAny_rule ?_)
    (with_reducible apply wpAny_ite_false); focus (rfl; done)
    with_reducible (first | refine wpAny_bind ?_ | refine wpAny_pure ?_ | refine wpAny_holding ?_ | refine wpAny_standAt ?_ | refine wpAny_point ?_ | refine wpAny_rule ?_)
    with_reducible (refine wpAny_of_eq (by assumption) ?_)
    (with_reducible apply wpAny_ite_false); focus (rfl; done)
    with_reducible (first | refine wpAny_bind ?_ | refine wpAny_pure ?_ | refine wpAny_holding ?_ | refine wpAny_standAt ?_ | refine wpAny_point ?_ | refine wpAny_rule ?_)
    (with_reducible apply wpAny_ite_false); focus (rfl; done)
    with_reducible (first | refine wpAny_bind ?_ | refine wpAny_pure ?_ | refine wpAny_holding ?_ | refine wpAny_standAt ?_ | refine wpAny_point ?_ | refine wpAny_rule ?_)
    wp_delta
    with_reducible (first | refine wpAny_bind ?_ | refine wpAny_pure ?_ | refine wpAny_holding ?_ | refine wpAny_standAt ?_ | refine wpAny_point ?_ | refine wpAny_rule ?_)
    iterate 4 (wp_delta)
    iterate 3 (with_reducible (first | refine wpAny_bind ?_ | refine wpAny_pure ?_ | refine wpAny_holding ?_ | refine wpAny_standAt ?_ | refine wpAny_point ?_ | refine wpAny_rule ?_))
    with_reducible apply wpAny_pyIter_tuple L1
    with_reducible (first | refine wpAny_bind ?_ | refine wpAny_pure ?_ | refine wpAny_holding ?_ | refine wpAny_standAt ?_ | refine wpAny_point ?_ | refine wpAny_rule ?_)
    iterate 2 (wp_delta)
    iterate 3 (with_reducible (first | refine wpAny_bind ?_ | refine wpAny_pure ?_ | refine wpAny_holding ?_ | refine wpAny_standAt ?_ | refine wpAny_point ?_ | refine wpAny_rule ?_))
    with_reducible apply wpAny_pyIter_tuple L2
    with_reducible (first | refine wpAny_bind ?_ | refine wpAny_pure ?_ | refine wpAny_holding ?_ | refine wpAny_standAt ?_ | refine wpAny_point ?_ | refine wpAny_rule ?_)
    iterate 2 (wp_delta)
    iterate 3 (with_reducible (first | refine wpAny_bind ?_ | refine wpAny_pure ?_ | refine wpAny_holding ?_ | refine wpAny_standAt ?_ | refine wpAny_point ?_ | refine wpAny_rule ?_))
    with_reducible apply wpAny_pyIter_list L3
    with_reducible (first | refine wpAny_bind ?_ | refine wpAny_pure ?_ | refine wpAny_holding ?_ | refine wpAny_standAt ?_ | refine wpAny_point ?_ | refine wpAny_rule ?_)
    iterate 2 (wp_delta)
    iterate 3 (with_reducible (first | refine wpAny_bind ?_ | refine wpAny_pure ?_ | refine wpAny_holding ?_ | refine wpAny_standAt ?_ | refine wpAny_point ?_ | refine wpAny_rule ?_))
    iterate 2 (wp_delta)
    (with_reducible apply wpAny_ite_false); focus (rfl; done)
    iterate 2 (wp_delta)
    with_reducible (first | refine wpAny_bind ?_ | refine wpAny_pure ?_ | refine wpAny_holding ?_ | refine wpAny_standAt ?_ | refine wpAny_point ?_ | refine wpAny_rule ?_)
    with_reducible (first | refine wpAny_alloc' ?_ | refine wpAny_fresh' ?_ | refine wpAny_letGo ?_)
    iterate 2 (with_reducible (first | refine wpAny_bind ?_ | refine wpAny_pure ?_ | refine wpAny_holding ?_ | refine wpAny_standAt ?_ | refine wpAny_point ?_ | refine wpAny_rule ?_))
    iterate 2 (wp_delta)
    (with_reducible apply wpAny_ite_false); focus (rfl; done)
    iterate 2 (wp_delta)
    with_reducible (first | refine wpAny_bind ?_ | refine wpAny_pure ?_ | refine wpAny_holding ?_ | refine wpAny_standAt ?_ | refine wpAny_point ?_ | refine wpAny_rule ?_)
    with_reducible (first | refine wpAny_alloc' ?_ | refine wpAny_fresh' ?_ | refine wpAny_letGo ?_)
    iterate 2 (with_reducible (first | refine wpAny_bind ?_ | refine wpAny_pure ?_ | refine wpAny_holding ?_ | refine wpAny_standAt ?_ | refine wpAny_point ?_ | refine wpAny_rule ?_))
    iterate 2 (wp_delta)
    (with_reducible apply wpAny_ite_false); focus (rfl; done)
    iterate 2 (wp_delta)
    with_reducible (first | refine wpAny_bind ?_ | refine wpAny_pure ?_ | refine wpAny_holding ?_ | refine wpAny_standAt ?_ | refine wpAny_point ?_ | refine wpAny_rule ?_)
    with_reducible (first | refine wpAny_alloc' ?_ | refine wpAny_fresh' ?_ | refine wpAny_letGo ?_)
    with_reducible (first | refine wpAny_bind ?_ | refine wpAny_pure ?_ | refine wpAny_holding ?_ | refine wpAny_standAt ?_ | refine wpAny_point ?_ | refine wpAny_rule ?_)
    wp_delta
    with_reducible (first | refine wpAny_bind ?_ | refine wpAny_pure ?_ | refine wpAny_holding ?_ | refine wpAny_standAt ?_ | refine wpAny_point ?_ | refine wpAny_rule ?_)
    exact ⟨_, rfl, h⟩
abbrev zq3 (h : Heap) (a b : Addr) : Heap := (zp2 h a b).push { cls := .type "tuple", data := .seq #[.ref h.objs.size, .ref (zp1 h a).objs.size] }
abbrev zq4 (h : Heap) (a b : Addr) : Heap := (zq3 h a b).push { cls := .type "tuple", data := .seq #[.none, .none] }
abbrev zq5 (h : Heap) (a b : Addr) : Heap := (zq4 h a b).push { cls := .type "zip", data := .fields #[.none, .bool false, .bool false, .ref (zp2 h a b).objs.size, .ref (zq3 h a b).objs.size] }
theorem meets_zipT (a b : Addr) (xs ys : Array Value) :
    Meets (Builtin.«zip.__new__» ⟨[.type "zip", .ref a, .ref b], []⟩) (fun _ R s => s.heap.IsTuple a xs ∧ s.heap.IsTuple b ys ∧
      R (.ok (.ret (.ref (zq4 s.heap a b).objs.size))) { s with heap := zq5 s.heap a b }) :=
  .of_wp fun prog w A R s h => by
    obtain ⟨hp, g, d, tk, os⟩ := s; obtain ⟨h1, h2, h⟩ := h
    have hsub := sub_zip
    have L1 : Heap.IsTuple (Shared.heap ⟨hp, g, d, tk, os⟩) a xs := h1
    have L2 : Heap.IsTuple (Shared.heap ⟨hp.push { cls := .type "tuple_iterator", data := .fields #[.ref a, .int 0 0] }, g, d, tk, os⟩) b ys := Heap.IsTuple.push h2 _
    wp_delta
    with_reducible (first | refine wpAny_bind ?_ | refine wpAny_pure ?_ | refine wpAny_holding ?_ | refine wpAny_standAt ?_ | refine wpAny_point ?_ | refine wpAny_rule ?_)
    wp_delta
    with_reducible (first | refine wpAny_bind ?_ | refine wpAny_pure ?_ | refine wpAny_holding ?_ | refine wpAny_standAt ?_ | refine wpAny_point ?_ | refine wpAny_rule ?_)
    wp_delta
    with_reducible (first | refine wpAny_bind ?_ | refine wpAny_pure ?_ | refine wpAny_holding ?_ | refine wpAny_standAt ?_ | refine wpAny_point ?_ | refine wpAny_rule ?_)
    (with_reducible apply wpAny_ite_false); focus (rfl; done)
    with_reducible (first | refine wpAny_bind ?_ | refine wpAny_pure ?_ | refine wpAny_holding ?_ | refine wpAny_standAt ?_ | refine wpAny_point ?_ | refine wpAny_rule ?_)
    with_reducible (refine wpAny_of_eq (by assumption) ?_)
    (with_reducible apply wpAny_ite_false); focus (rfl; done)
    with_reducible (first | refine wpAny_bind ?_ | refine wpAny_pure ?_ | refine wpAny_holding ?_ | refine wpAny_standAt ?_ | refine wpAny_point ?_ | refine wpAny_rule ?_)
    (with_reducible apply wpAny_ite_false); focus (rfl; done)
    with_reducible (first | refine wpAny_bind ?_ | refine wpAny_pure ?_ | refine wpAny_holding ?_ | refine wpAny_standAt ?_ | refine wpAny_point ?_ | refine wpAny_rule ?_)
    wp_delta
    with_reducible (first | refine wpAny_bind ?_ | refine wpAny_pure ?_ | refine wpAny_holding ?_ | refine wpAny_standAt ?_ | refine wpAny_point ?_ | refine wpAny_rule ?_)
    iterate 4 (wp_delta)
    iterate 3 (with_reducible (first | refine wpAny_bind ?_ | refine wpAny_pure ?_ | refine wpAny_holding ?_ | refine wpAny_standAt ?_ | refine wpAny_point ?_ | refine wpAny_rule ?_))
    with_reducible apply wpAny_pyIter_tuple L1
    with_reducible (first | refine wpAny_bind ?_ | refine wpAny_pure ?_ | refine wpAny_holding ?_ | refine wpAny_standAt ?_ | refine wpAny_point ?_ | refine wpAny_rule ?_)
    iterate 2 (wp_delta)
    iterate 3 (with_reducible (first | refine wpAny_bind ?_ | refine wpAny_pure ?_ | refine wpAny_holding ?_ | refine wpAny_standAt ?_ | refine wpAny_point ?_ | refine wpAny_rule ?_))
    with_reducible apply wpAny_pyIter_tuple L2
    with_reducible (first | refine wpAny_bind ?_ | refine wpAny_pure ?_ | refine wpAny_holding ?_ | refine wpAny_standAt ?_ | refine wpAny_point ?_ | refine wpAny_rule ?_)
    iterate 2 (wp_delta)
    iterate 3 (with_reducible (first | refine wpAny_bind ?_ | refine wpAny_pure ?_ | refine wpAny_holding ?_ | refine wpAny_standAt ?_ | refine wpAny_point ?_ | refine wpAny_rule ?_))
    iterate 2 (wp_delta)
    (with_reducible apply wpAny_ite_false); focus (rfl; done)
    iterate 2 (wp_delta)
    with_reducible (first | refine wpAny_bind ?_ | refine wpAny_pure ?_ | refine wpAny_holding ?_ | refine wpAny_standAt ?_ | refine wpAny_point ?_ | refine wpAny_rule ?_)
    with_reducible (first | refine wpAny_alloc' ?_ | refine wpAny_fresh' ?_ | refine wpAny_letGo ?_)
    iterate 2 (with_reducible (first | refine wpAny_bind ?_ | refine wpAny_pure ?_ | refine wpAny_holding ?_ | refine wpAny_standAt ?_ | refine wpAny_point ?_ | refine wpAny_rule ?_))
    iterate 2 (wp_delta)
    (with_reducible apply wpAny_ite_false); focus (rfl; done)
    iterate 2 (wp_delta)
    with_reducible (first | refine wpAny_bind ?_ | refine wpAny_pure ?_ | refine wpAny_holding ?_ | refine wpAny_standAt ?_ | refine wpAny_point ?_ | refine wpAny_rule ?_)
    with_reducible (first | refine wpAny_alloc' ?_ | refine wpAny_fresh' ?_ | refine wpAny_letGo ?_)
    iterate 2 (with_reducible (first | refine wpAny_bind ?_ | refine wpAny_pure ?_ | refine wpAny_holding ?_ | refine wpAny_standAt ?_ | refine wpAny_point ?_ | refine wpAny_rule ?_))
    iterate 2 (wp_delta)
    (with_reducible apply wpAny_ite_false); focus (rfl; done)
    iterate 2 (wp_delta)
    with_reducible (first | refine wpAny_bind ?_ | refine wpAny_pure ?_ | refine wpAny_holding ?_ | refine wpAny_standAt ?_ | refine wpAny_point ?_ | refine wpAny_rule ?_)
    with_reducible (first | refine wpAny_alloc' ?_ | refine wpAny_fresh' ?_ | refine wpAny_letGo ?_)
    with_reducible (first | refine wpAny_bind ?_ | refine wpAny_pure ?_ | refine wpAny_holding ?_ | refine wpAny_standAt ?_ | refine wpAny_point ?_ | refine wpAny_rule ?_)
    wp_delta
    with_reducible (first | refine wpAny_bind ?_ | refine wpAny_pure ?_ | refine wpAny_holding ?_ | refine wpAny_standAt ?_ | refine wpAny_point ?_ | refine wpAny_rule ?_)
    exact ⟨_, rfl, h⟩
section
variable {prog : Program} {w : World} {A : Around} {E : Value → Shared → Prop} {s : Shared}
theorem nextOf_tup_end {it t : Addr} {i : Nat} {items} {Q : Value → Shared → Prop} (hh : A.handled = none) (hit : s.heap.IsTupleIter it t i) (ht : s.heap.IsTuple t items) (hx : items[i]? = none)
    (hE : ∀ h' e, Heap.ExtBut it s.heap h' → (∃ o, h'.get? e = some o ∧ o.cls = .type "StopIteration") → E (.ref e) { s with heap := h' }) : wpAny (model prog w) A (Builtin.SmallTypes.nextOf (.ref it)) Q E s := by
  obtain ⟨o, ho, hc, hd⟩ := id hit
  obtain ⟨ol, hol, _, nl, hdl⟩ := ht
  unfold Builtin.SmallTypes.nextOf
  refine wpAny_bind (wpAny_callSpecial?_slot (name := Str.ofString "__next__") hit.typeIs F.slot_tuple_iterator_next
    (wpAny_call_entry F.slot_tuple_iterator_next hit.typeIs F.entry_tuple_iterator_next ?_ (F.args_tuple_iterator_next_1 _)))
  show wpAny _ _ (field (.ref it) 0 >>= _) _ _ s
  refine wpAny_bind (wpAny_field ho hd (x := .ref t) rfl ?_)
  show wpAny _ _ (if (Value.ref t == Value.none) = true then _ else _) _ _ s
  rw [if_neg (show ¬ ((Value.ref t == Value.none) = true) from Bool.false_ne_true)]
  show wpAny _ _ (field (.ref it) 1 >>= _) _ _ s
  refine wpAny_bind (wpAny_field ho hd (x := .int i 0) rfl ?_)
  show wpAny _ _ (seqItems? (.ref t) >>= _) _ _ s
  refine wpAny_bind (wpAny_seqItems hol hdl ?_)
  simp only [Int.toNat_natCast, hx]
  refine wpAny_bind (wpAny_rule (wpAny_bind (wpAny_setField ho hd (by simp) ?_)))
  show wpAny _ _ (newExc (.type "StopIteration") [] >>= _) _ _ _
  refine wpAny_bind ?_
  simp only [newExc, newTuple]
  refine wpAny_bind (wpAny_newObj_type ?_ (by size_fits))
  refine wpAny_bind (m := firstArgMember _ _) (wpAny_of_eq (a := Value.none) (by first | rfl | (simp only [firstArgMember]; rfl)) ?_)
  refine wpAny_newObj_type ?_ (by size_fits)
  simp only [raiseNew]
  refine wpAny_bind (wpAny_handled ?_)
  first | rw [show A.in1.handled = none from hh] | rw [hh]
  refine wpAny_bind (wpAny_pure (wpAny_throw ?_))
  exact hE _ _ (((Heap.SameBut.update ..).extBut.push _).push _) ⟨_, Heap.get?_push_size _ rfl, rfl⟩

abbrev IsZip3 (h : Heap) (z TI TO : Addr) (f0 : Value) : Prop := h.get? z = some { cls := .type "zip", dict := none, data := .fields #[f0, .bool false, .bool false, .ref TI, .ref TO], slots := #[] }
theorem zip3_end {z TI TO i1 t : Addr} {Q : Option Value → Shared → Prop} {rest : List Value} (hh : A.handled = none) (n1 : i1 ≠ z) (n2 : TI ≠ z) (n3 : t ≠ z) (n4 : z ≠ i1)
    (hz : IsZip3 s.heap z TI TO .none) (hTI : s.heap.get? TI = some { cls := .type "tuple", data := .seq (.ref i1 :: rest).toArray })
    (h1 : s.heap.IsTupleIter i1 t 0) (ht : s.heap.IsTuple t #[])
    (hQ : ∀ h', (∀ c o, c ≠ z → c ≠ i1 → s.heap.get? c = some o → h'.get? c = some o) → Q none { s with heap := h' }) : wpAny (model prog w) A (pyNext (.ref z)) Q E s := by
  have hT : s.TypeIs (.ref z) "zip" := ⟨_, hz, rfl⟩
  unfold pyNext
  refine wpAny_bind (wpAny_attempt (wpAny_callSpecial?_slot (name := Str.ofString "__next__") hT F.slot_zip_next (wpAny_call_entry F.slot_zip_next hT F.entry_zip_next ?_ (F.args_zip_next_1 _))))
  show wpAny _ _ (field (.ref z) 2 >>= _) _ _ _
  refine wpAny_bind (wpAny_field hz rfl (x := .bool false) rfl ?_)
  show wpAny _ _ (field (.ref z) 3 >>= _) _ _ _
  refine wpAny_bind (wpAny_field hz rfl (x := .ref TI) rfl ?_)
  refine wpAny_bind (wpAny_seqItems hTI rfl ?_)
  show wpAny _ _ (Builtin.SmallTypes.ownedTupleIsFree (.ref z) >>= _) _ _ _
  refine wpAny_bind ?_
  unfold Builtin.SmallTypes.ownedTupleIsFree
  refine wpAny_bind (wpAny_field hz rfl (x := .none) rfl (wpAny_pure ?_))
  simp only [if_true]
  refine wpAny_bind (wpAny_rule ?_)
  refine wpAny_bind (wpAny_field hz rfl (x := .ref TO) rfl ?_)
  refine wpAny_bind (wpAny_setField_rec hz (by simp) fun h₁ hz₁ hs₁ => ?_)
  replace hz₁ : IsZip3 h₁ z TI TO .ellipsis := hz₁
  refine wpAny_bind ?_
  simp only [List.zipIdx_cons, List.forIn_cons]
  refine wpAny_bind (wpAny_bind (wpAny_onRaise ?_))
  show wpAny _ _ (Builtin.SmallTypes.nextOf (.ref i1) >>= _) _ _ _
  refine wpAny_bind (nextOf_tup_end hh (h1.extBut hs₁.extBut n1) (ht.extBut hs₁.extBut n3) rfl fun h₂ e hs₂ he => ?_)
  obtain ⟨oe, hoe, hce⟩ := he
  have hz₂ : IsZip3 h₂ z TI TO .ellipsis := hs₂ _ _ n4 hz₁
  have hez : e ≠ z := fun x => by subst x; rw [hz₂] at hoe; cases hoe; simp at hce
  refine wpAny_setField_rec hz₂ (by simp) fun h₃ _ hs₃ => ?_
  refine wpAny_bind (wpAny_isInstance (T := "StopIteration") (b := true) ⟨oe, hs₃.extBut _ _ hez hoe, hce⟩ isSubtype_stop ?_)
  exact wpAny_pure (hQ _ fun c o c1 c2 x => hs₃.extBut _ _ c1 (hs₂ _ _ c2 (hs₁.extBut _ _ c1 x)))
end
end Mine

end
open PySem PySem.W PyProof.Rows
namespace Mine
set_option maxRecDepth 100000
set_option maxHeartbeats 8000000
open_top hd for PySem.Challenge.rw_ft0021_01
end Mine

open PySem.Calls
namespace Mine
theorem arms_off : True := by
  w_top off
  trivial
end Mine
namespace Mine
set_option maxRecDepth 100000

abbrev PG : Program := PySem.Challenge.rw_ft0021_01.row.prog

/-- what a call of the value f does: it hands back a value, keeps all that is not of the ledger, and makes tl -/
def Does (w : World) (p : Program) (loose : List Str) (mean : ExcName → Option Value) (mg mb : Str → Option Value) (k : Nat)
    (f : Addr) (vs : List Value) (kw : List (Str × Value)) (W : Heap → Prop) (R : Value → List (Addr × Obj) → Prop) : Prop :=
  ∀ (dp un : Nat) (gd : Option (List Code)) (cn : Str) (cs : Scope) (a : Addr) (ccd : Value) (cl : List (Str × Addr)) (outer : List Env) (A₀ : Around) (base h₀ : Heap) (L : Addr)
    (m : Str → Option Value) (news : List (Addr × Obj)) (s : Shared) (Q E : Value → Shared → Prop),
    Below A₀ base outer h₀ → Fr h₀ L s.heap m → (hd.heap_39 w.params).In h₀ → News h₀ L s.heap news → Top p loose mean mg mb h₀ → cs.kind = .function →
    (∀ g, GSub s.heap g (news.map (·.1)) → W g) → dp + k < recursionLimit → un + 20 * k < cLine →
    (∀ r tl h' tk', Fr h₀ L h' m → News h₀ L h' (tl ++ news) → GSub s.heap h' (news.map (·.1)) → (∀ q ∈ tl, s.heap.objs.size ≤ q.1) → R r tl → Q r { s with heap := h', toks := tk' }) →
    wpAny (model PG w) (ktrTop dp un gd cn cs L a ccd cl outer) (call (.ref f) vs kw) Q E s

theorem gsub_trans {h g h' : Heap} {adr : List Addr} (G : GSub h g adr) (k : ∀ b o, g.get? b = some o → h'.get? b = some o) : GSub h h' adr := fun b o e n => k b o (G b o e n)

end Mine
local macro_rules | `(tactic| k_room) => `(tactic| ((try simp only [PySem.W.depth_mark, depth_under_make, PySem.W.depth_under_kw, depth_in1, depth_deeper, depth_caller]); (try dsimp only [ktrTop]); omega))
local macro_rules | `(tactic| k_units) => `(tactic| ((try simp only [units_in1, units_deeper, Around.mark_units, units_caller]); (try dsimp only [ktrTop]); omega))
local macro_rules | `(tactic| k_enter) => `(tactic| (refine' code_defG ?k1 ?k2 ?k3 ?k4 ?k5 ?kA ?kF ?kK ?k6 ?k7 ?k8 ?k9 ?kB ?_ ?c2 ?c3 ?c4 ?c5; (case kA => exact rfl); (case kF => exact rfl); (case kK => first | exact rfl | assumption); (case k1 => k_asm); (case k2 => k_asm); (case k3 => k_asm); (case k4 => k_asm); (case k5 => k_asm); (case k6 => k_is); (case k7 => k_is); (case k8 => k_room); (case k9 => first | exact BindsTo.of_eq rfl | exact binds_K (by k_in) rfl (by k_is) rfl rfl rfl | fail "k_enter: no rule for these arguments"); (case c5 => decide); (case kB => exact locs rfl); (case c2 => exact rfl); (case c3 => exact rfl); (case c4 => exact rfl); k_whole; intro g' L' h' FG' F' N' B' X' T' kG'; (try dsimp only); (try k_lift B'); (try k_fold)))
local macro_rules | `(tactic| walk_at "eval Name") => `(tactic| (k_here; (fail_if_success (with_reducible show wpAny _ _ (eval (PySem.Expr.Name _ _) (compEnvC _ _ _ _)) _ _ _)); name_kind "globalImplicit"; k_dflt (first | (refine' nameX_K ?kf ?kx ?kt ?ke ?_ ?ka ?kb; (case kf => k_asm); (case kx => k_asm); (case kt => k_asm); (case ka => rfl); (case kb => rfl); (case ke => k_is); k_whole) | (name_is_builtin; refine' nameX_B ?kf ?kx ?kt ?ke ?kv ?kn ?_ ?ka ?kb; (case kf => k_asm); (case kx => k_asm); (case kt => k_asm); (case ka => rfl); (case kb => rfl); (case ke => k_is); (case kv => boot_fast); (case kn => decide); k_whole))))
local macro_rules | `(tactic| walk_at "eval Name") => `(tactic| (k_here; (fail_if_success (with_reducible show wpAny _ _ (eval (PySem.Expr.Name _ _) (compEnvC _ _ _ _)) _ _ _)); name_kind "cell"; k_dflt (refine' nameX_C ?kn ?kc ?km ?kd ?_ ?ka ?kb; (case ka => rfl); (case kb => rfl); (case kn => k_asm); (case kc => rfl); (case km => k_mem); (case kd => k_asm); k_whole)))
local macro_rules | `(tactic| walk_at "eval Name") => `(tactic| (k_here; (fail_if_success (with_reducible show wpAny _ _ (eval (PySem.Expr.Name _ _) (compEnvC _ _ _ _)) _ _ _)); name_kind "local"; k_dflt (refine' nameX_L ?kf ?kv ?_ ?ka ?kb; (case kf => k_asm); (case ka => rfl); (case kb => rfl); (case kv => rfl); k_whole)))
namespace Mine
set_option maxRecDepth 100000

/-! ## the world: classes and types -/
section
variable (At : Addr → Obj → Prop)
def InstTo (x c : Addr) : Prop := ∃ d t h1 k1 h2 k2 n1 n2, At x (instObj 312 d) ∧ At d (dictOf [⟨h1, .str (Str.ofString "type") k1, .ref c⟩, ⟨h2, .str (Str.ofString "args") k2, .ref t⟩] n1) ∧ At t { cls := .type "tuple", data := .seq #[] n2 }
def UpAt (bl : Addr) : Option Addr → Prop
  | none => ∃ n, At bl (listOf #[] n)
  | some u => ∃ x n, At bl (listOf #[.ref x] n) ∧ InstTo At x u
def ClsAt (c : Addr) (nm : Str) (up : Option Addr) (mro : List Addr) : Prop :=
  ∃ d df dd tv tv2 bl ml, ∃ h0 k0 h1 k1 h2 k2 h3 k3 h4 k4 h5 k5, ∃ tk n1 n2 n3 n4 n5,
    At c (instObj 64 d) ∧
    At d (dictOf [⟨h1, .str (Str.ofString "fullname") k1, .str nm tk⟩, ⟨h2, .str (Str.ofString "defn") k2, .ref df⟩, ⟨h3, .str (Str.ofString "type_vars") k3, .ref tv⟩, ⟨h4, .str (Str.ofString "bases") k4, .ref bl⟩, ⟨h5, .str (Str.ofString "mro") k5, .ref ml⟩] n1) ∧
    At df (instObj 38 dd) ∧ At dd (dictOf [⟨h0, .str (Str.ofString "type_vars") k0, .ref tv2⟩] n2) ∧ At tv (listOf #[] n3) ∧ At tv2 (listOf #[] n4) ∧ At ml (listOf (mro.map Value.ref).toArray n5) ∧ UpAt At bl up
end
variable {At At' : Addr → Obj → Prop}
theorem InstTo.mono {x c : Addr} (k : ∀ a o, At a o → At' a o) (h : InstTo At x c) : InstTo At' x c := by
  obtain ⟨d, t, h1, k1, h2, k2, n1, n2, a, b, c⟩ := h
  exact ⟨d, t, h1, k1, h2, k2, n1, n2, k _ _ a, k _ _ b, k _ _ c⟩
theorem UpAt.mono {bl : Addr} (k : ∀ a o, At a o → At' a o) : ∀ {up}, UpAt At bl up → UpAt At' bl up
  | none, ⟨n, a⟩ => ⟨n, k _ _ a⟩
  | some _, ⟨x, n, a, b⟩ => ⟨x, n, k _ _ a, b.mono k⟩
theorem ClsAt.mono {c : Addr} {nm : Str} {up : Option Addr} {mro : List Addr} (k : ∀ a o, At a o → At' a o) (h : ClsAt At c nm up mro) : ClsAt At' c nm up mro := by
  obtain ⟨d, df, dd, tv, tv2, bl, ml, h0, k0, h1, k1, h2, k2, h3, k3, h4, k4, h5, k5, tk, n1, n2, n3, n4, n5, a1, a2, a3, a4, a5, a6, a7, a8⟩ := h
  exact ⟨d, df, dd, tv, tv2, bl, ml, h0, k0, h1, k1, h2, k2, h3, k3, h4, k4, h5, k5, tk, n1, n2, n3, n4, n5, k _ _ a1, k _ _ a2, k _ _ a3, k _ _ a4, k _ _ a5, k _ _ a6, k _ _ a7, a8.mono k⟩

/-- the name of the class at a place -/
def nmOf : Nat → Str
  | 0 => Str.ofString "builtins.object"
  | i + 1 => Str.ofString "m.C" ++ Str.ofString (toString i)
/-- the parent of the class whose line is given -/
def upOf (cs : List Addr) (ch : List Nat) : Option Addr := match ch with
  | _ :: p :: _ => some (cs.getD p 0)
  | _ => none
/-- does class i lie below class j, by the names -/
def sub (chs : List (List Nat)) (i j : Nat) : Bool := (chs.getD i []).any fun k => nmOf k == nmOf j
/-- the world: the lines of the classes, the classes' addresses -/
structure Wd (At : Addr → Obj → Prop) (chs : List (List Nat)) (cs : List Addr) : Prop where
  len : cs.length = chs.length
  nodup : cs.Nodup
  cls : ∀ i, i < chs.length → ClsAt At (cs.getD i 0) (nmOf i) (upOf cs (chs.getD i [])) ((chs.getD i []).map fun j => cs.getD j 0)
theorem Wd.mono {chs : List (List Nat)} {cs : List Addr} (k : ∀ a o, At a o → At' a o) (h : Wd At chs cs) : Wd At' chs cs := ⟨h.len, h.nodup, fun i hi => (h.cls i hi).mono k⟩

/-! ## objects in the base -/
abbrev hAt (h : Heap) : Addr → Obj → Prop := fun a o => h.get? a = some o
theorem instAt_base {h₀ h : Heap} {L x C dx : Addr} {m : Str → Option Value} {od : Obj} {sl : Array (Option Value)} (F : Fr h₀ L h m) (h1 : h₀.get? x = some (⟨.ref C, some dx, .plain, sl⟩ : Obj)) (h2 : h₀.get? dx = some od) :
    InstAt h x ⟨.ref C, some dx, .plain, sl⟩ C (some od) := ⟨F.keep _ _ h1, rfl, rfl, F.keep _ _ h2⟩
theorem isList_of {h : Heap} {l : Addr} {its : Array Value} {n : Nat} (e : h.get? l = some (listOf its n)) : h.IsList l its := ⟨_, e, rfl, _, rfl⟩

/-! ## loops -/
section
variable {prog : Program} {w : World} {A : Around} {E : Value → Shared → Prop} {s : Shared} {env : Env} {h₀ : Heap} {x : Str} {body : List Stmt} {Q : Flow → Shared → Prop}
/-- a loop over a list of the base, by what holds between the turns -/
theorem loopB {l : Addr} {vs : List Value} {m₀ : Str → Option Value} {news : List (Addr × Obj)} (J : Nat → (Str → Option Value) → List (Addr × Obj) → Prop)
    (hh : A.handled = none) (hl : h₀.IsList l vs.toArray) (F : Fr h₀ env.locals s.heap m₀) (N : News h₀ env.locals s.heap news) (hj : J 0 m₀ news)
    (turn : ∀ i v m₁ nx h tk own, vs[i]? = some v → TbOff own nx → J i m₁ nx → Fr h₀ env.locals h (fun y => if y = x then some v else m₁ y) → News h₀ env.locals h (nx ++ own) →
      wpAny (model prog w) A (execs body env) (TbPost h₀ env.locals (J (i + 1)) own { s with heap := h, toks := tk } Q) E { s with heap := h, toks := tk })
    (done : ∀ m₁ nx h tk, J vs.length m₁ nx → Fr h₀ env.locals h m₁ → News h₀ env.locals h nx → Q .next { s with heap := h, toks := tk }) :
    wpAny (model prog w) A (pyIter (.ref l)) (fun it s₂ => LoopAtV prog w A h₀ env x body Q E it s₂) E s := by
  have hls : s.heap.IsList l vs.toArray := hl.at fun o e => F.keep l o e
  obtain ⟨ol, hol, _⟩ := id hl
  have hlt : l < h₀.objs.size := Heap.lt_size hol
  have hne : l ≠ s.heap.objs.size := Nat.ne_of_lt (Nat.lt_trans (Nat.lt_of_lt_of_le hlt F.above) F.ns.lt)
  have up : ∀ b o, s.heap.get? b = some o → (s.heap.push { cls := .type "list_iterator", data := .fields #[.ref l, .int 0 0] }).get? b = some o := fun b o e => Heap.get?_push_of_some _ e
  refine wpAny_pyIter_list hls ?_
  refine ⟨s.heap.objs.size, [s.heap.objs.size, l], [s.heap.objs.size], vs.length, fun i v => vs[i]? = some v, fun i h => h.IsListIter s.heap.objs.size l i ∧ h.IsList l vs.toArray, m₀, news, J, rfl, ?_, ?_, ?_, ?_, ⟨⟨_, Heap.get?_push_size _ rfl, rfl, rfl⟩, hls.at fun o e => up _ _ e⟩, F.push _, (fun p hp => ⟨up _ _ (N p hp).1, (N p hp).2⟩), hj, ?_, ?_⟩
  · have W := Walks.list (prog := prog) (w := w) hh s.heap.objs.size l hne vs.toArray
    simpa using W
  · intro hm
    simp only [List.mem_cons, List.not_mem_nil, or_false] at hm
    rcases hm with e | e
    · exact absurd F.ns.lt (e ▸ Nat.lt_irrefl _)
    · exact absurd (Nat.lt_of_lt_of_le hlt F.above) (e ▸ Nat.lt_irrefl _)
  · intro b hb
    rw [List.mem_singleton.mp hb]
    exact next_is_new F
  · intro p hp hI
    exact absurd (Heap.lt_size (N p hp).1) ((List.mem_singleton.mp hI) ▸ Nat.lt_irrefl _)
  · rintro i v m₁ nx s₁ own ⟨h, tk, rfl⟩ hin hP hJ hoff hown _ hmem hst F₁ N₁
    obtain ⟨⟨oi, hoi, _⟩, _⟩ := hst
    have hI : (s.heap.objs.size, oi) ∈ own := hmem _ (.head _) (next_is_new F) oi hoi
    have sep : TbOff own nx := by
      intro p hp q hq e
      have hpa := hown p hp
      simp only [List.mem_cons, List.not_mem_nil, or_false] at hpa
      rcases hpa with h1 | h1
      · exact hoff q hq (List.mem_singleton.mpr (by rw [← e, h1]))
      · have h3 := (N₁ q (List.mem_append.mpr (.inr hq))).2.2
        rw [← e, h1, hol] at h3
        cases h3
    have N₂ : News h₀ env.locals h (nx ++ own) := fun p hp => N₁ p ((List.mem_append.mp hp).elim (fun h => List.mem_append.mpr (.inr h)) fun h => List.mem_append.mpr (.inl h))
    refine wpAny_mono (turn i v m₁ nx h tk own hP sep hJ F₁ N₂) (fun f s₂ p => ?_) fun _ _ e => e
    have fin : TbEnd h₀ env.locals (J (i + 1)) own { s with heap := h, toks := tk } s₂ → LoopStepU h₀ env.locals [s.heap.objs.size] own (J (i + 1)) { s with heap := h, toks := tk } .next s₂ := by
      rintro ⟨h', tk, m', news', nx', e, F', N', hn, ho, ha, hm⟩
      exact ⟨rfl, h', tk, m', nx', e, F', fun p hp => N' p ((List.mem_append.mp hp).elim (ho p) (hn p)), fun p hp hq => ha _ hI p hp (List.mem_singleton.mp hq).symm, hm⟩
    cases f with
    | ret v => exact .ret p
    | brk => exact .brk p
    | next => exact .next (fin p)
    | cont => exact .cont (fin p)
  · rintro h' tk m' news' F' N' _ hJ
    exact done m' news' h' tk hJ F' N'

theorem tbEnd_of {J : (Str → Option Value) → List (Addr × Obj) → Prop} {L : Addr} {own all : List (Addr × Obj)} {m' : Str → Option Value} {s₁ : Shared} {h' : Heap} {tk : Nat}
    (F : Fr h₀ L h' m') (N : News h₀ L h' all) (nx : List (Addr × Obj)) (hn : ∀ p ∈ nx, p ∈ all) (ho : ∀ p ∈ own, p ∈ all) (hs : TbOff own nx) (hj : J m' nx) : TbEnd h₀ L J own s₁ { s₁ with heap := h', toks := tk } :=
  ⟨h', tk, m', all, nx, rfl, F, N, hn, ho, hs, hj⟩
end
section
variable {prog : Program} {w : World} {A : Around} {E : Value → Shared → Prop} {s : Shared} {env : Env} {h₀ : Heap} {x : Str} {body : List Stmt} {Q : Flow → Shared → Prop}
/-- a loop over a list of the base that stores its own name alone -/
theorem loopS {l : Addr} {vs : List Value} {m₀ : Str → Option Value} {news : List (Addr × Obj)} (P : Nat → Prop)
    (hh : A.handled = none) (hl : h₀.IsList l vs.toArray) (F : Fr h₀ env.locals s.heap m₀) (N : News h₀ env.locals s.heap news) (h0 : P 0)
    (turn : ∀ i v h tk own, vs[i]? = some v → TbOff own news → P i → Fr h₀ env.locals h (fun y => if y = x then some v else m₀ y) → News h₀ env.locals h (news ++ own) →
      wpAny (model prog w) A (execs body env) (TbPost h₀ env.locals (fun m' nx => nx = news ∧ (∀ z, z ≠ x → m' z = m₀ z) ∧ P (i + 1)) own { s with heap := h, toks := tk } Q) E { s with heap := h, toks := tk })
    (done : ∀ (u : Str → Option Value) h tk, P vs.length → Fr h₀ env.locals h (fun z => if z = x then u z else m₀ z) → News h₀ env.locals h news → Q .next { s with heap := h, toks := tk }) :
    wpAny (model prog w) A (pyIter (.ref l)) (fun it s₂ => LoopAtV prog w A h₀ env x body Q E it s₂) E s := by
  refine loopB (fun i m nx => nx = news ∧ (∀ z, z ≠ x → m z = m₀ z) ∧ P i) hh hl F N ⟨rfl, fun _ _ => rfl, h0⟩ ?_ ?_
  · rintro i v m₁ nx h tk own hv ho ⟨rfl, hm, hp⟩ F₁ N₁
    have e : (fun y => if y = x then some v else m₁ y) = fun y => if y = x then some v else m₀ y := by
      funext y
      by_cases q : y = x
      · simp [q]
      · simp [q, hm y q]
    rw [e] at F₁
    exact turn i v h tk own hv ho hp F₁ N₁
  · rintro m₁ nx h tk ⟨rfl, hm, hp⟩ F₁ N₁
    have e : m₁ = fun z => if z = x then m₁ z else m₀ z := by
      funext y
      by_cases q : y = x
      · simp [q]
      · simp [q, hm y q]
    rw [e] at F₁
    exact done m₁ h tk hp F₁ N₁
theorem tbEnd_S {L : Addr} {own news all : List (Addr × Obj)} {m₀ m' : Str → Option Value} {P : Prop} {s₁ : Shared} {h' : Heap} {tk : Nat}
    (F : Fr h₀ L h' m') (N : News h₀ L h' all) (hn : ∀ p ∈ news ++ own, p ∈ all) (hs : TbOff own news) (hm : ∀ z, z ≠ x → m' z = m₀ z) (hp : P) :
    TbEnd h₀ L (fun m' nx => nx = news ∧ (∀ z, z ≠ x → m' z = m₀ z) ∧ P) own s₁ { s₁ with heap := h', toks := tk } :=
  tbEnd_of F N news (fun p h => hn p (List.mem_append.mpr (.inl h))) (fun p h => hn p (List.mem_append.mpr (.inr h))) hs ⟨rfl, hm, hp⟩
end
end Mine
/-! ## words of the walk -/
local macro_rules | `(tactic| tb_rel) => `(tactic| first | with_reducible assumption | (refine' Fr.keep ?kf _ _ ?kh; (case kf => with_reducible assumption); (case kh => tb_rel)))
local macro_rules | `(tactic| k_inst) => `(tactic| (refine' Mine.instAt_base ?F ?h1 ?h2; (case F => k_asm); (case h1 => tb_rel); (case h2 => tb_rel)))
namespace Mine
set_option maxRecDepth 100000
set_option maxHeartbeats 8000000
variable {w : World} {p : Program} {loose : List Str} {mean : ExcName → Option Value} {mg mb : Str → Option Value}
theorem has_base_does {chs : List (List Nat)} {cs : List Addr} {i j : Nat} {tk : Nat} (hi : i < chs.length) (hmem : ∀ i k, k ∈ chs.getD i [] → k < chs.length) :
    Does w p loose mean mg mb 3 61 [.ref (cs.getD i 0), .str (nmOf j) tk] [] (fun g => Wd (hAt g) chs cs) (fun r tl => tl = [] ∧ r = .bool (sub chs i j)) := by
  intro dp un gd cn cs' a ccd cl outer A₀ base h₀ L m news s Q E B F X N T hk hW hd hu hret
  refine wpAny_call ?_
  k_dflt k_enter
  have hw := hW _ (by assumption)
  obtain ⟨d, df, dd, tv, tv2, bl, ml, h0, k0, h1, k1, h2, k2, h3, k3, h4, k4, h5, k5, tk, n1, n2, n3, n4, n5, a1, a2, a3, a4, a5, a6, a7, a8⟩ := hw.cls i hi
  k_steps
  rename Fr _ _ _ _ => F'
  rename News _ _ _ _ => N'
  with_unfolding_all refine loopS (fun t => ∀ k ∈ (chs.getD i []).take t, (nmOf k == nmOf j) = false) rfl (isList_of a7) F' N' (by simp) ?_ ?_
  · intro t v h tk own hv ho hp F₁ N₁
    obtain ⟨k, hk, rfl⟩ : ∃ k, (chs.getD i [])[t]? = some k ∧ v = .ref (cs.getD k 0) := by
      simp only [List.map_map, List.getElem?_map, Option.map_eq_some_iff] at hv
      obtain ⟨k, e1, rfl⟩ := hv
      exact ⟨k, e1, rfl⟩
    obtain ⟨d', df', dd', tv', tv2', bl', ml', h0', k0', h1', k1', h2', k2', h3', k3', h4', k4', h5', k5', tk', n1', n2', n3', n4', n5', a1', a2', a3', a4', a5', a6', a7', a8'⟩ := hw.cls k (hmem i k (List.mem_of_getElem? hk))
    clear F' N'
    k_steps
    · refine hret _ [] _ _ (by assumption) (cb_drop (by assumption) (by kcf_all)) (gsub_trans (by assumption) (Fr.keep (by assumption))) (by simp) ⟨rfl, ?_⟩
      rw [sub, List.any_eq_true.mpr ⟨k, List.mem_of_getElem? hk, by assumption⟩]
    · refine tbEnd_S F₁ N₁ (fun p h => h) ho (by intro z hz; exact if_neg hz) ?_
      intro k' hk'
      rw [List.take_add_one, hk] at hk'
      simp only [Option.toList_some, List.mem_append, List.mem_singleton] at hk'
      rcases hk' with hk' | rfl
      · exact hp k' hk'
      · assumption
  · intro u h tk hp F₁ N₁
    clear F' N'
    k_steps
    refine hret _ [] _ _ (by assumption) (cb_drop (by assumption) (by kcf_all)) (gsub_trans (by assumption) (Fr.keep (by assumption))) (by simp) ⟨rfl, ?_⟩
    rw [sub, List.any_eq_false.mpr (fun k hk => by
      have := hp k (by simpa using hk)
      simp only [this]; exact Bool.false_ne_true)]
end Mine

namespace Mine
set_option maxRecDepth 100000
variable {w : World} {p : Program} {loose : List Str} {mean : ExcName → Option Value} {mg mb : Str → Option Value}

theorem Does.use {k : Nat} {f : Addr} {vs : List Value} {kw : List (Str × Value)} {W : Heap → Prop} {R : Value → List (Addr × Obj) → Prop} (D : Does w p loose mean mg mb k f vs kw W R)
    {dp un : Nat} {gd : Option (List Code)} {cn : Str} {cs : Scope} {a : Addr} {ccd : Value} {cl : List (Str × Addr)} {outer : List Env} {A₀ : Around} {base h₀ : Heap} {L : Addr}
    {m : Str → Option Value} {news : List (Addr × Obj)} {s : Shared} {Q E : Value → Shared → Prop}
    (B : Below A₀ base outer h₀) (F : Fr h₀ L s.heap m) (X : (hd.heap_39 w.params).In h₀) (N : News h₀ L s.heap news) (T : Top p loose mean mg mb h₀) (hk : cs.kind = .function)
    (hW : ∀ g, GSub s.heap g (news.map (·.1)) → W g) (hd : dp + k < recursionLimit) (hu : un + 20 * k < cLine)
    (hret : ∀ r tl h' tk', Fr h₀ L h' m → News h₀ L h' (tl ++ news) → GSub s.heap h' (news.map (·.1)) → (∀ q ∈ tl, s.heap.objs.size ≤ q.1) → R r tl → Q r { s with heap := h', toks := tk' }) :
    wpAny (model PG w) (ktrTop dp un gd cn cs L a ccd cl outer) (call (.ref f) vs kw) Q E s :=
  D dp un gd cn cs a ccd cl outer A₀ base h₀ L m news s Q E B F X N T hk hW hd hu hret

theorem Wd.lift {At At' : Addr → Obj → Prop} {chs : List (List Nat)} {cs : List Addr} (h : Wd At chs cs) (k : ∀ a o, At a o → At' a o) : Wd At' chs cs := h.mono k
theorem InstTo.lift {At At' : Addr → Obj → Prop} {x c : Addr} (h : InstTo At x c) (k : ∀ a o, At a o → At' a o) : InstTo At' x c := h.mono k
theorem lift_step {g1 b g : Heap} {L : Addr} {m : Str → Option Value} (F : Fr b L g m) (k : ∀ a o, hAt g1 a o → hAt b a o) : ∀ a o, hAt g1 a o → hAt g a o := fun a o e => F.keep a o (k a o e)
theorem lift_call {g1 b h g : Heap} {L : Addr} {m : Str → Option Value} {news : List (Addr × Obj)} (F : Fr b L h m) (N : News b L h news) (G : GSub h g (news.map (·.1))) (k : ∀ a o, hAt g1 a o → hAt b a o) : ∀ a o, hAt g1 a o → hAt g a o := fun a o e =>
  G a o (F.keep a o (k a o e)) fun hm => by
    obtain ⟨q, hq, rfl⟩ := List.mem_map.mp hm
    have := (N q hq).2.2
    rw [k _ _ e] at this
    cases this
end Mine
/- tb_start: what stood in an elder ground stands in the present one -/
local macro_rules | `(tactic| tb_start) => `(tactic| first | exact fun _ _ e => e | (refine' Mine.lift_step ?kF ?kk; (case kF => with_reducible assumption); (case kk => tb_start)))
local macro_rules | `(tactic| walk_at "call ref") => `(tactic| (k_here; (with_reducible show wpAny _ _ (call (Value.ref 61) [_, _] []) _ _ _); k_dflt (refine' Mine.Does.use (Mine.has_base_does ?hi ?hm) ?k1 ?k2 ?k3 ?k4 ?k5 ?k6 ?k7 ?k8 ?k9 ?_; (case k1 => k_asm); (case k2 => k_asm); (case k3 => k_asm); (case k4 => k_asm); (case k5 => k_asm); (case k6 => first | exact rfl | assumption); (case hi => assumption); (case hm => assumption); (case k7 => (intro g9 G9; exact Mine.Wd.lift (by assumption) (Mine.lift_call (by assumption) (by assumption) G9 (by tb_start)))); (case k8 => k_room); (case k9 => k_units)); (intro _ _ h' tk' F' N' G' _ hR'; obtain ⟨e1', e2'⟩ := hR'; subst e1'; subst e2'); (try simp only [List.nil_append] at N'); (try k_sweep)))
section
open PySem.Spec
namespace Mine
set_option maxRecDepth 100000
section
variable {prog : Program} {w : World} {A₀ A : Around} {s : Shared} {base h₀ : Heap} {outer : List Env} {L : Addr} {m : Str → Option Value} {env : Env} {news : List (Addr × Obj)} {K : Frag} {p : Program} {loose : List Str} {mean : ExcName → Option Value} {mg mb : Str → Option Value}
  {R : Result → Shared → Prop} {name qual : Str} {params : Arguments} {body : List Stmt} {scope : Scope} {dV kV doc pm cdv ct oc : Value} {an od : Option Addr} {osl : Array (Option Value)} {f : Addr} {args : Args} {binds : List (Str × Value)}
/-- a def with cells, entered; what is not of the ledger is of its ground -/
theorem enterC (B : Below A₀ base outer h₀) (F : Fr h₀ L s.heap m) (X₀ : K.In h₀) (N : News h₀ L s.heap news) (T : Top p loose mean mg mb h₀) (hA : A.frames = some (env :: outer)) (hf : env.frame = some L) (hke : env.scope.kind = .function)
    (ho : K.lookup f = some ⟨oc, od, .func (fnOf name qual params body scope dV kV doc pm an cdv ct), osl⟩) (hcd : codeIn K cdv qual = true) (hroom : A.depth < recursionLimit)
    (hbind : BindsTo s (fnOf name qual params body scope dV kV doc pm an cdv ct) args binds) (hkind : (binds.all fun y => scope.names.lookup y.1 == some .local || scope.names.lookup y.1 == some .cell) = true)
    (hnd : ((cellsFrom 0 scope.names []).map (·.1)).Nodup)
    (h : ∀ g L' h₁ tk cells, Fr h₀ L g m → Fr g L' h₁ (bindL (envOfC qual scope L' f cdv).kindOf binds fun _ => none) → News g L' h₁ (cells ++ news) →
      CellsAre (bindC (envOfC qual scope L' f cdv).kindOf binds fun _ => none) (cellsFrom (L' + 1) scope.names []) cells → Below A base (env :: outer) g → K.In g → Top p loose mean mg mb g → GSub s.heap g (news.map (·.1)) → (∀ p ∈ news, p.1 < L') →
      wpAny (model prog w) (A.deeper (envOfC qual scope L' f cdv)) (execs body (envOfC qual scope L' f cdv))
        (fun fl s' => LeaveK h₀ L m g R (match fl with | .ret v => v | _ => .none) s')
        (fun e s' => wpAny (model prog w) (A.deeper (envOfC qual scope L' f cdv)) (leaving (envOfC qual scope L' f cdv) e) (fun _ s'' => R (.error e) s'') (fun e' s'' => R (.error e') s'') s')
        { s with heap := h₁, toks := tk })
    (hco : scope.isCoroutine = false) (hgen : scope.isGenerator = false) (hk : scope.kind = .function) : codeAny (model prog w) A (.call (.ref f) args) R s := by
  obtain ⟨FG, BG, st, lv⟩ := groundX (R := R) B F N hA hf hke
  refine codeAny_call_function hroom ((X₀.keeps F.keep) _ _ ho) rfl hco hgen rfl (codeRec_of (X₀.keeps F.keep) hcd) (hbind _ _ _ _ ?_)
  refine wpAny_newFunctionEnv_cells hk (kindsX hkind _) fun env' he s' x => ?_
  subst he
  refine ⟨(T.nolimit.keeps F.keep).keeps x.toInCall.keep, codeAny_func ?_⟩
  obtain ⟨h₁, tk, rfl, _⟩ := x.done
  have kept := x.toInCall.keep
  obtain ⟨cells, NC, Y⟩ := Cl.news (h₀ := s.heap) (Nat.le_refl _) fun n c hm => ⟨x.cell n c (lookup_of_mem_nodup (cellsFrom_names scope.names 0 (s.heap.objs.size + 1) [] [] rfl ▸ hnd) hm), x.above n c hm⟩
  have NN : News (hideAll s.heap (news.map (·.1))) s.heap.objs.size h₁ (cells ++ news) := fun q hq => by
    rcases List.mem_append.mp hq with hq | hq
    · refine ⟨(NC q hq).1, (NC q hq).2.1, ?_⟩
      cases e : (hideAll s.heap (news.map (·.1))).get? q.1 with
      | none => rfl
      | some o =>
        have := of_hideAll _ e
        rw [(NC q hq).2.2] at this
        cases this
    · exact ⟨kept _ _ (N q hq).1, Nat.ne_of_lt (Heap.lt_size (N q hq).1), hideAll_none _ (List.mem_map_of_mem hq)⟩
  exact wpAny_mono (h _ s.heap.objs.size h₁ tk cells FG ⟨x.toInCall.ns, fun b o e => kept b o (of_hideAll _ e), Nat.le_of_eq (hideAll_size _ _)⟩ NN Y BG (X₀.keeps st) (T.keeps st) (fun b o e n => hideAll_get _ e n) (fun q hq => Heap.lt_size (N q hq).1))
    (fun fl s' hl => lv _ _ hl) fun _ _ y => y
end
end Mine
end
local macro_rules | `(tactic| k_enter) => `(tactic| (refine' Mine.enterC ?k1 ?k2 ?k3 ?k4 ?k5 ?kA ?kF ?kK ?k6 ?k7 ?k8 ?k9 ?kB ?kD ?_ ?c2 ?c3 ?c4; (case kA => exact rfl); (case kF => exact rfl); (case kK => first | exact rfl | assumption); (case k1 => k_asm); (case k2 => k_asm); (case k3 => k_asm); (case k4 => k_asm); (case k5 => k_asm); (case k6 => k_is); (case k7 => k_is); (case k8 => k_room); (case k9 => first | exact BindsTo.of_eq rfl | exact binds_K (by k_in) rfl (by k_is) rfl rfl rfl | fail "k_enter: no rule for these arguments"); (case kB => exact rfl); (case kD => decide +kernel); (case c2 => exact rfl); (case c3 => exact rfl); (case c4 => exact rfl); k_whole; intro g' L' h' tk' cells' FG' F' N' Y' B' X' T' kG' l1; (try k_lt l1); k_cells Y'; (try simp only [List.cons_append, List.nil_append] at N'); (try dsimp only); (try k_lift B'); (try k_fold)))
local macro_rules | `(tactic| k_enter) => `(tactic| (refine' code_defG ?k1 ?k2 ?k3 ?k4 ?k5 ?kA ?kF ?kK ?k6 ?k7 ?k8 ?k9 ?kB ?_ ?c2 ?c3 ?c4 ?c5; (case kA => exact rfl); (case kF => exact rfl); (case kK => first | exact rfl | assumption); (case k1 => k_asm); (case k2 => k_asm); (case k3 => k_asm); (case k4 => k_asm); (case k5 => k_asm); (case k6 => k_is); (case c5 => decide); (case k7 => k_is); (case k8 => k_room); (case k9 => first | exact BindsTo.of_eq rfl | exact binds_K (by k_in) rfl (by k_is) rfl rfl rfl | fail "k_enter: no rule for these arguments"); (case kB => exact locs rfl); (case c2 => exact rfl); (case c3 => exact rfl); (case c4 => exact rfl); k_whole; intro g' L' h' FG' F' N' B' X' T' kG'; (try dsimp only); (try k_lift B'); (try k_fold)))
section
open PySem.Spec
namespace Mine
set_option maxRecDepth 100000
section
variable {M : Model} {A : Around} {E : Value → Shared → Prop} {s : Shared} {Q : Value → Shared → Prop}
theorem is_refs {x y : Addr} {ox oy : Obj} (hx : s.heap.get? x = some ox) (hy : s.heap.get? y = some oy) (hnt : ox.cls ≠ .type "tuple") (h : Q (.bool (x == y)) s) : wpAny M A (compareOp .Is (.ref x) (.ref y)) Q E s := by
  by_cases e : x = y
  · subst e
    rw [beq_self_eq_true] at h
    exact wpAny_is_ref_self h
  · rw [beq_eq_false_iff_ne.mpr e] at h
    exact wpAny_is_ref_other e hx hy hnt h
end
end Mine
end
local macro_rules | `(tactic| walk_at "compareOp Is ref ref") => `(tactic| (k_here; (with_reducible show wpAny _ _ (compareOp CmpOp.Is (Value.ref _) (Value.ref _)) _ _ _); k_dflt (refine' Mine.is_refs ?a ?b ?c ?_; (case a => first | exact News.get (by k_asm) (by k_mem) | (refine' Fr.keep ?kf _ _ ?kh; (case kf => k_asm); (case kh => tb_rel))); (case b => first | exact News.get (by k_asm) (by k_mem) | (refine' Fr.keep ?kf _ _ ?kh; (case kf => k_asm); (case kh => tb_rel))); (case c => (intro e; cases e)); k_whole)))
section
open PySem.Spec
namespace Mine
set_option maxRecDepth 100000
section
variable {prog : Program} {w : World} {A : Around} {E : Value → Shared → Prop} {s : Shared} {h₀ : Heap} {L : Addr} {m : Str → Option Value} {news : List (Addr × Obj)}
abbrev zipO (TI TO : Addr) : Obj := { cls := .type "zip", dict := none, data := .fields #[.none, .bool false, .bool false, .ref TI, .ref TO], slots := #[] }
abbrev tup3O (a b c : Value) : Obj := { cls := .type "tuple", data := .seq #[a, b, c] }
abbrev tupItO (a : Addr) : Obj := { cls := .type "tuple_iterator", data := .fields #[.ref a, .int 0 0] }
/-- zip of two tuples and a list: what it makes -/
theorem zip3_N {a b c : Addr} {xs ys zs : Array Value} {Q : Value → Shared → Prop} (F : Fr h₀ L s.heap m) (N : News h₀ L s.heap news) (h1 : s.heap.IsTuple a xs) (h2 : s.heap.IsTuple b ys) (h3 : s.heap.IsList c zs)
    (h : ∀ z TI TO i1 o1 o2 h', Fr h₀ L h' m → News h₀ L h' ((z, zipO TI TO) :: (TI, tup3O (.ref i1) o1 o2) :: (i1, tupItO a) :: news) → (∀ p ∈ news, p.1 < i1) → i1 < TI → TI < z → a < i1 → Q (.ref z) { s with heap := h' }) :
    wpAny (model prog w) A (call (.type "zip") [.ref a, .ref b, .ref c]) Q E s := by
  refine callType_new PySem.F.called_zip (by decide) (typeCall_zip3 _ _ _) (newCall_zip3 _ _ _) (fun obj => args_init4 obj _ _ _) PySem.F.entry_zip_new (meets_zip3 a b c xs ys zs) ⟨h1, h2, h3, ?_⟩
  have alt : a < s.heap.objs.size := by obtain ⟨_, e, _⟩ := h1; exact Heap.lt_size e
  have z1 : (zp1 s.heap a).objs.size = s.heap.objs.size + 1 := Heap.size_push ..
  have z2 : (zp2 s.heap a b).objs.size = s.heap.objs.size + 2 := by rw [Heap.size_push, z1]
  have z3 : (zp3 s.heap a b c).objs.size = s.heap.objs.size + 3 := by rw [Heap.size_push, z2]
  have z4 : (zp4 s.heap a b c).objs.size = s.heap.objs.size + 4 := by rw [Heap.size_push, z3]
  have z5 : (zp5 s.heap a b c).objs.size = s.heap.objs.size + 5 := by rw [Heap.size_push, z4]
  have F6 : Fr h₀ L (zp6 s.heap a b c) m := ((((((F.push _).push _).push _).push _).push _).push _)
  have N1 := N.push F (tupItO a)
  have N2 := N1.push (F.push (tupItO a)) (tupItO b)
  have N3 := N2.push ((F.push (tupItO a)).push (tupItO b)) { cls := .type "list_iterator", data := .fields #[.ref c, .int 0 0] }
  have N4 := N3.push (((F.push (tupItO a)).push (tupItO b)).push { cls := .type "list_iterator", data := .fields #[.ref c, .int 0 0] }) (tup3O (.ref s.heap.objs.size) (.ref (zp1 s.heap a).objs.size) (.ref (zp2 s.heap a b).objs.size))
  have N5 := N4.push (h := zp4 s.heap a b c) ((((F.push (tupItO a)).push (tupItO b)).push { cls := .type "list_iterator", data := .fields #[.ref c, .int 0 0] }).push _) (tup3O .none .none .none)
  have N6 := N5.push (h := zp5 s.heap a b c) (((((F.push (tupItO a)).push (tupItO b)).push { cls := .type "list_iterator", data := .fields #[.ref c, .int 0 0] }).push _).push _) (zipO (zp3 s.heap a b c).objs.size (zp4 s.heap a b c).objs.size)
  refine ⟨⟨_, Heap.get?_push_size _ rfl, rfl⟩, ?_⟩
  refine h _ (zp3 s.heap a b c).objs.size (zp4 s.heap a b c).objs.size s.heap.objs.size (.ref (zp1 s.heap a).objs.size) (.ref (zp2 s.heap a b).objs.size) _ F6 (fun q hq => N6 q ?_) (fun q hq => Heap.lt_size (N q hq).1) ?_ ?_ alt
  · simp only [List.mem_cons] at hq ⊢
    rcases hq with e | e | e | e
    · exact .inl e
    · exact .inr (.inr (.inl e))
    · exact .inr (.inr (.inr (.inr (.inr (.inl e)))))
    · exact .inr (.inr (.inr (.inr (.inr (.inr e)))))
  · show s.heap.objs.size < _; rw [z3]; omega
  · show (zp3 s.heap a b c).objs.size < _; rw [z3, z5]; omega

/-- a loop over a zip that has nothing to give -/
theorem for_zip_none {es : List Expr} {k : Nat} {tp np pos : Pos} {nm : Str} {body : List Stmt} {env : Env} {Q : Flow → Shared → Prop} {z TI TO i1 a : Addr} {o1 o2 : Value}
    (hh : A.handled = none) (F : Fr h₀ env.locals s.heap m) (N : News h₀ env.locals s.heap ((z, zipO TI TO) :: (TI, tup3O (.ref i1) o1 o2) :: (i1, tupItO a) :: news)) (ha : s.heap.IsTuple a #[]) (n1 : i1 < TI) (n2 : TI < z) (n3 : a < i1) (lt : ∀ p ∈ news, p.1 < i1)
    (hi : wpAny (model prog w) A (eval (.Name nm np) env) (fun v s' => v = .ref z ∧ s' = s) (fun _ _ => False) s)
    (h : ∀ h', Fr h₀ env.locals h' m → News h₀ env.locals h' news → Q .next { s with heap := h' }) :
    wpAny (model prog w) A (exec (.For (.Tuple es k tp) (.Name nm np) body [] pos) env) Q E s := by
  have hz := (N (z, zipO TI TO) (.head _)).1
  have hTI := (N (TI, tup3O (.ref i1) o1 o2) (.tail _ (.head _))).1
  have h1 := (N (i1, tupItO a) (.tail _ (.tail _ (.head _)))).1
  have hz0 := (N (z, zipO TI TO) (.head _)).2
  have h10 := (N (i1, tupItO a) (.tail _ (.tail _ (.head _)))).2
  refine wpAny_For (wpAny_mono hi (fun v s₁ e => ?_) fun _ _ e => e.elim)
  obtain ⟨rfl, rfl⟩ := e
  refine wpAny_pyIter_zip hz ?_
  refine codeAny_loop' rfl (fun _ s' => s' = s₁) (fun n s' e => ?_) 0 rfl
  subst e
  show wpAny _ _ ((forTurn (.Tuple es k tp) (.ref z) body [] env).onRaise (fun x => do noteFrame x env; theTreesLotGoes x)) _ _ _
  refine wpAny_noted ?_
  simp only [forTurn]
  refine wpAny_bind (wpAny_standAt (wpAny_bind (wpAny_onRaise (zip3_end (by exact hh) (Nat.ne_of_lt (Nat.lt_trans n1 n2)) (Nat.ne_of_lt n2) (Nat.ne_of_lt (Nat.lt_trans n3 (Nat.lt_trans n1 n2))) (Nat.ne_of_gt (Nat.lt_trans n1 n2)) (rest := [o1, o2]) hz hTI ⟨_, h1, rfl, rfl⟩ ha fun h' keep => ?_))))
  refine wpAny_pure (.inr ⟨rfl, codeAny_block (wpAny_execs_nil ?_)⟩)
  have nb : ∀ b o, h₀.get? b = some o → b ≠ z ∧ b ≠ i1 := fun b o e => ⟨fun q => (by rw [q, hz0.2] at e; cases e), fun q => (by rw [q, h10.2] at e; cases e)⟩
  refine h h' ⟨F.ns.at' fun o e => keep _ o (Ne.symm hz0.1) (Ne.symm h10.1) e, fun b o e => keep b o (nb b o e).1 (nb b o e).2 (F.keep b o e), F.above⟩ fun q hq => ?_
  have hq' := N q (.tail _ (.tail _ (.tail _ hq)))
  have l := lt q hq
  exact ⟨keep _ _ (Nat.ne_of_lt (Nat.lt_trans l (Nat.lt_trans n1 n2))) (Nat.ne_of_lt l) hq'.1, hq'.2⟩
abbrev tup2O (a b : Value) : Obj := { cls := .type "tuple", data := .seq #[a, b] }
theorem typeCall_zipT (a b : Value) : checkTypeCall "zip" ⟨[a, b], []⟩ = pure () := PySem.F.typeCall_zip_2 a b
/-- zip of two tuples: what it makes -/
theorem zipT_N {a b : Addr} {xs ys : Array Value} {Q : Value → Shared → Prop} (F : Fr h₀ L s.heap m) (N : News h₀ L s.heap news) (h1 : s.heap.IsTuple a xs) (h2 : s.heap.IsTuple b ys)
    (h : ∀ z TI TO i1 o1 h', Fr h₀ L h' m → News h₀ L h' ((z, zipO TI TO) :: (TI, tup2O (.ref i1) o1) :: (i1, tupItO a) :: news) → (∀ p ∈ news, p.1 < i1) → i1 < TI → TI < z → a < i1 → Q (.ref z) { s with heap := h' }) :
    wpAny (model prog w) A (call (.type "zip") [.ref a, .ref b]) Q E s := by
  refine callType_new PySem.F.called_zip (by decide) (PySem.F.typeCall_zip_2 _ _) (PySem.F.newCall_zip_2 _ _) (fun obj => PySem.F.args_object_init_3 obj _ _) PySem.F.entry_zip_new (meets_zipT a b xs ys) ⟨h1, h2, ?_⟩
  have alt : a < s.heap.objs.size := by obtain ⟨_, e, _⟩ := h1; exact Heap.lt_size e
  have z1 : (zp1 s.heap a).objs.size = s.heap.objs.size + 1 := Heap.size_push ..
  have z2 : (zp2 s.heap a b).objs.size = s.heap.objs.size + 2 := by rw [Heap.size_push, z1]
  have z3 : (zq3 s.heap a b).objs.size = s.heap.objs.size + 3 := by rw [Heap.size_push, z2]
  have z4 : (zq4 s.heap a b).objs.size = s.heap.objs.size + 4 := by rw [Heap.size_push, z3]
  have N1 := N.push F (tupItO a)
  have N2 := N1.push (F.push (tupItO a)) (tupItO b)
  have N3 := N2.push ((F.push (tupItO a)).push (tupItO b)) (tup2O (.ref s.heap.objs.size) (.ref (zp1 s.heap a).objs.size))
  have N4 := N3.push (h := zq3 s.heap a b) (((F.push (tupItO a)).push (tupItO b)).push _) (tup2O .none .none)
  have N5 := N4.push (h := zq4 s.heap a b) ((((F.push (tupItO a)).push (tupItO b)).push _).push _) (zipO (zp2 s.heap a b).objs.size (zq3 s.heap a b).objs.size)
  have F5 : Fr h₀ L (zq5 s.heap a b) m := (((((F.push _).push _).push _).push _).push _)
  refine ⟨⟨_, Heap.get?_push_size _ rfl, rfl⟩, ?_⟩
  refine h _ (zp2 s.heap a b).objs.size (zq3 s.heap a b).objs.size s.heap.objs.size (.ref (zp1 s.heap a).objs.size) _ F5 (fun q hq => N5 q ?_) (fun q hq => Heap.lt_size (N q hq).1) ?_ ?_ alt
  · simp only [List.mem_cons] at hq ⊢
    rcases hq with e | e | e | e
    · exact .inl e
    · exact .inr (.inr (.inl e))
    · exact .inr (.inr (.inr (.inr (.inl e))))
    · exact .inr (.inr (.inr (.inr (.inr e))))
  · show s.heap.objs.size < _; rw [z2]; omega
  · show (zp2 s.heap a b).objs.size < _; rw [z2, z4]; omega

def ZipSrc (A : Around) (h₀ : Heap) (L : Addr) (m : Str → Option Value) (Q : Value → Shared → Prop) (xv : Value) (s₁ : Shared) : Prop :=
  ∃ z TI TO i1 a rest news, xv = .ref z ∧ A.handled = none ∧ Fr h₀ L s₁.heap m ∧ News h₀ L s₁.heap ((z, zipO TI TO) :: (TI, ({ cls := .type "tuple", data := .seq (.ref i1 :: rest).toArray } : Obj)) :: (i1, tupItO a) :: news) ∧
      s₁.heap.IsTuple a #[] ∧ i1 < TI ∧ TI < z ∧ a < i1 ∧ (∀ p ∈ news, p.1 < i1) ∧ (∀ D h' tk, Fr h₀ L h' m → News h₀ L h' ((D, listOf #[] 0) :: news) → (∀ p ∈ news, p.1 < D) → Q (.ref D) { s₁ with heap := h', toks := tk })
theorem ZipSrc.intro2 {z TI TO i1 a : Addr} {o1 : Value} {Q : Value → Shared → Prop} (hh : A.handled = none) (F : Fr h₀ L s.heap m) (N : News h₀ L s.heap ((z, zipO TI TO) :: (TI, tup2O (.ref i1) o1) :: (i1, tupItO a) :: news))
    (ha : s.heap.IsTuple a #[]) (n1 : i1 < TI) (n2 : TI < z) (n3 : a < i1) (lt : ∀ p ∈ news, p.1 < i1) (h : ∀ D h' tk, Fr h₀ L h' m → News h₀ L h' ((D, listOf #[] 0) :: news) → (∀ p ∈ news, p.1 < D) → Q (.ref D) { s with heap := h', toks := tk }) : ZipSrc A h₀ L m Q (.ref z) s :=
  ⟨z, TI, TO, i1, a, [o1], news, rfl, hh, F, N, ha, n1, n2, n3, lt, h⟩
/-- a comprehension over a zip that has nothing to give -/
theorem comp_zip_none {elt iter : Expr} {es : List Expr} {k : Nat} {tp : Pos} {ifs : List Expr} {scope : Scope} {cl : List (Str × Addr)} {pos : Pos} {env : Env} {Q : Value → Shared → Prop}
    (_F₀ : Fr h₀ L s.heap m) (hclos : closureFor scope env = pure cl) (hcell : ∀ y ∈ scope.names, y.2 ≠ .cell) (hkind : scope.kind = .function) (hnames : ∀ y ∈ scope.names, y.2 = .local → scope.names.lookup y.1 = some .local)
    (h : wpAny (model prog w) A (eval iter env) (ZipSrc A h₀ L m Q) E s)
    (hs : ∀ x, foldedSetIterable iter env x = pure x := by intro _; rfl) :
    wpAny (model prog w) A (eval (.ListComp elt [⟨.Tuple es k tp, iter, ifs, 0⟩] scope pos) env) Q E s := by
  rw [eval_ListComp]
  refine wpAny_comprehension_free (use := none) rfl hs hclos hkind hnames (wpAny_mono h (fun xv s₁ h₁ => ?_) fun _ _ e => e)
  obtain ⟨z, TI, TO, i1, a, rest, news, rfl, hh, F, N, ha, n1, n2, n3, lt, fin⟩ := h₁
  have hz := (N (z, zipO TI TO) (.head _)).1
  have hz0 := (N (z, zipO TI TO) (.head _)).2
  have h10 := (N (i1, tupItO a) (.tail _ (.tail _ (.head _)))).2
  have zlt : z < s₁.heap.objs.size := Heap.lt_size hz
  refine wpAny_pyIter_zip hz ?_
  refine wpAny_newObj_type (wpAny_newFunctionEnv hcell (by intro y hy; simp at hy) (fun h₁ hns₁ hsb₁ => ?_) hkind)
  dsimp only at hns₁ hsb₁ ⊢
  generalize hH2 : s₁.heap.push { cls := .type "list", dict := none, data := .seq ([] : List Value).toArray } = H2 at hns₁ hsb₁ ⊢
  have z2 : H2.objs.size = s₁.heap.objs.size + 1 := by rw [← hH2, Heap.size_push]
  have up : ∀ b o, H2.get? b = some o → h₁.get? b = some o := fun b o e => hsb₁.extBut b o (Nat.ne_of_lt (Heap.lt_size e)) (Heap.get?_push_of_some _ e)
  have F2 : Fr h₀ L H2 m := by rw [← hH2]; exact F.push _
  have N2 : News h₀ L H2 ((s₁.heap.objs.size, listOf #[] 0) :: (z, zipO TI TO) :: (TI, ({ cls := .type "tuple", data := .seq (.ref i1 :: rest).toArray } : Obj)) :: (i1, tupItO a) :: news) := by rw [← hH2]; exact N.push F _
  have F3 : Fr h₀ L h₁ m := F2.keeps up
  have N3 := N2.grown up
  have ha3 : h₁.IsTuple a #[] := by obtain ⟨o, e, r⟩ := ha; exact ⟨o, up _ _ (hH2 ▸ Heap.get?_push_of_some _ e), r⟩
  have c0 : h₀.get? H2.objs.size = none := by
    cases e : h₀.get? H2.objs.size with
    | none => rfl
    | some o => exact absurd (Heap.lt_size (F2.keep _ o e)) (Nat.lt_irrefl _)
  have loop : ∀ s₃ : Shared, s₃ = { s₁ with heap := h₁, toks := s₁.toks + ([] : List (Str × Value)).length } →
      codeAny (model prog w) A (.compLoop (.ListComp elt [⟨.Tuple es k tp, iter, ifs, 0⟩] scope pos) 0 (.ref z) (.ref s₁.heap.objs.size) (compEnvC scope cl H2.objs.size env)) (compPost (model prog w) A E none Q (.ref s₁.heap.objs.size) H2.objs.size) s₃ := by
    rintro s₃ rfl
    refine codeAny_loop rfl (fun _ s' => s' = _) (fun n s' e => ?_) 0 rfl
    subst e
    show wpAny _ A ((compTurn (.ListComp elt [⟨.Tuple es k tp, iter, ifs, 0⟩] scope pos) 0 (.ref z) (.ref s₁.heap.objs.size) (compEnvC scope cl H2.objs.size env)).onRaise (fun x => do noteFrame x (compEnvC scope cl H2.objs.size env); theTreesLotGoes x)) _ _ _
    refine wpAny_noted ?_
    rw [compTurn_list]
    refine wpAny_bind (wpAny_standAt (wpAny_bind (zip3_end hh (Nat.ne_of_lt (Nat.lt_trans n1 n2)) (Nat.ne_of_lt n2) (Nat.ne_of_lt (Nat.lt_trans n3 (Nat.lt_trans n1 n2))) (Nat.ne_of_gt (Nat.lt_trans n1 n2)) (N3 _ (.tail _ (.head _))).1 (N3 _ (.tail _ (.tail _ (.head _)))).1 ⟨_, (N3 _ (.tail _ (.tail _ (.tail _ (.head _))))).1, rfl, rfl⟩ ha3 fun h' keep => ?_)))
    refine wpAny_pure ?_
    have nb : ∀ b o, h₀.get? b = some o → b ≠ z ∧ b ≠ i1 := fun b o e => ⟨fun q => (by rw [q, hz0.2] at e; cases e), fun q => (by rw [q, h10.2] at e; cases e)⟩
    have cz : (H2.objs.size : Nat) ≠ z ∧ (H2.objs.size : Nat) ≠ i1 := by
      have a1 : @LT.lt Nat _ z s₁.heap.objs.size := zlt
      have a2 : @LT.lt Nat _ i1 TI := n1
      have a3 : @LT.lt Nat _ TI z := n2
      exact ⟨Nat.ne_of_gt (by omega), Nat.ne_of_gt (by omega)⟩
    refine ⟨_, hns₁.at' fun o e => keep _ o cz.1 cz.2 e, fun h'' hs'' => ?_⟩
    have k2 : ∀ b o, b ≠ z → b ≠ i1 → b ≠ H2.objs.size → h₁.get? b = some o → h''.get? b = some o := fun b o x1 x2 x3 e => hs''.extBut b o x3 (keep b o x1 x2 e)
    have Ls : @LT.lt Nat _ L s₁.heap.objs.size := F.ns.lt
    refine fin _ h'' _ ⟨F3.ns.at' fun o e => k2 _ o (Ne.symm hz0.1) (Ne.symm h10.1) (Nat.ne_of_lt (by omega)) e, fun b o e => k2 b o (nb b o e).1 (nb b o e).2 (fun q => by rw [q, c0] at e; cases e) (F3.keep b o e), F3.above⟩ (fun q hq => ?_) fun q hq => Nat.lt_trans (lt q hq) (Nat.lt_trans n1 (Nat.lt_trans n2 zlt))
    have zlt' : @LT.lt Nat _ z s₁.heap.objs.size := zlt
    have n1' : @LT.lt Nat _ i1 TI := n1
    have n2' : @LT.lt Nat _ TI z := n2
    rcases List.mem_cons.mp hq with rfl | hq
    · exact ⟨k2 _ _ (by show (s₁.heap.objs.size : Nat) ≠ z; omega) (by show (s₁.heap.objs.size : Nat) ≠ i1; omega) (by show (s₁.heap.objs.size : Nat) ≠ _; omega) (N3 _ (.head _)).1, (N3 _ (.head _)).2⟩
    · have hq' := N3 q (.tail _ (.tail _ (.tail _ (.tail _ hq))))
      have l : @LT.lt Nat _ q.1 i1 := lt q hq
      exact ⟨k2 _ _ (Nat.ne_of_lt (by omega)) (Nat.ne_of_lt l) (Nat.ne_of_lt (by omega)) hq'.1, hq'.2⟩
  have lp := loop _ rfl
  exact codeAny_compStart_list lp (wpAny_pyIter_zip (N3 _ (.tail _ (.head _))).1 lp)
end
end Mine
namespace Mine
theorem isTup_base {b h : Heap} {L a : Addr} {m : Str → Option Value} {its : Array Value} {n : Nat} (F : Fr b L h m) (e : b.get? a = some ({ cls := .type "tuple", data := .seq its n } : Obj)) : h.IsTuple a its := ⟨_, F.keep _ _ e, rfl, _, rfl⟩
theorem isList_base {b h : Heap} {L a : Addr} {m : Str → Option Value} {its : Array Value} {n : Nat} (F : Fr b L h m) (e : b.get? a = some (listOf its n)) : h.IsList a its := ⟨_, F.keep _ _ e, rfl, _, rfl⟩
theorem isTup_led {b h : Heap} {L a : Addr} {news : List (Addr × Obj)} {its : Array Value} {n : Nat} (N : News b L h news) (e : (a, ({ cls := .type "tuple", data := .seq its n } : Obj)) ∈ news) : h.IsTuple a its := ⟨_, (N _ e).1, rfl, _, rfl⟩
end Mine
end
local macro_rules | `(tactic| walk_at "call type:zip") => `(tactic| (k_here; (with_reducible show wpAny _ _ (call (Value.type "zip") [Value.ref _, Value.ref _, Value.ref _] _) _ _ _); k_dflt (refine' Mine.zip3_N ?F ?N ?a ?b ?c ?_; (case F => k_asm); (case N => k_asm); (case a => first | (refine' Mine.isTup_led ?n ?m; (case n => k_asm); (case m => k_mem)) | (refine' Mine.isTup_base ?f ?h; (case f => k_asm); (case h => tb_rel))); (case b => (refine' Mine.isTup_base ?f ?h; (case f => k_asm); (case h => tb_rel))); (case c => (refine' Mine.isList_base ?f ?h; (case f => k_asm); (case h => tb_rel))); k_whole); intro z' t' o' i' p1' p2' h' F' N' l1 l2 l3 l4; (try k_sweep)))
local macro_rules | `(tactic| walk_at "exec For") => `(tactic| (k_here; (with_reducible show wpAny _ _ (exec (Stmt.For (Expr.Tuple _ _ _) (Expr.Name _ _) _ [] _) _) _ _ _); k_dflt (refine' Mine.for_zip_none ?hh ?F ?N ?a ?l1 ?l2 ?l3 ?l4 ?hi ?_; (case hh => exact rfl); (case F => k_asm); (case N => k_asm); (case a => first | (refine' Mine.isTup_led ?n ?m; (case n => k_asm); (case m => k_mem)) | (refine' Mine.isTup_base ?f ?h; (case f => k_asm); (case h => tb_rel))); (case l1 => assumption); (case l2 => assumption); (case l3 => assumption); (case l4 => assumption); (case hi => (refine' nameX_L ?f ?v ⟨rfl, rfl⟩ ?a ?b; (case f => k_asm); (case a => rfl); (case b => rfl); (case v => rfl))); k_whole); intro h' F' N'; (try k_sweep)))
local macro_rules | `(tactic| walk_at "truthy ref") => `(tactic| (k_here; k_dflt (refine' wpAny_truthy_list ?h ?f ?_; (case h => (refine' Mine.isList_base ?g ?i; (case g => k_asm); (case i => tb_rel))); (case f => decide); k_whole)))
section
open PySem.Spec
namespace Mine
section
variable {prog : Program} {w : World} {A : Around} {E : Value → Shared → Prop} {s : Shared}
theorem eq_tup_nil {a b : Addr} {Q : Value → Shared → Prop} (ha : s.heap.IsTuple a #[]) (hb : s.heap.IsTuple b #[]) (hu : A.units < cLine) (h : Q (.bool true) s) : wpAny (model prog w) A (compareOp .Eq (.ref a) (.ref b)) Q E s :=
  SeqAt.eq_tupleAt (e := fun _ => true) ha hb hu (fun j h1 _ => absurd h1 (Nat.not_lt_zero _)) h
end
end Mine
end
local macro_rules | `(tactic| walk_at "compareOp Eq ref ref") => `(tactic| (k_here; (with_reducible show wpAny _ _ (compareOp CmpOp.Eq (Value.ref _) (Value.ref _)) _ _ _); k_dflt (refine' Mine.eq_tup_nil ?a ?b ?u ?_; (case a => first | (refine' Mine.isTup_led ?n ?m; (case n => k_asm); (case m => k_mem)) | (refine' Mine.isTup_base ?f ?h; (case f => k_asm); (case h => tb_rel))); (case b => first | (refine' Mine.isTup_led ?n ?m; (case n => k_asm); (case m => k_mem)) | (refine' Mine.isTup_base ?f ?h; (case f => k_asm); (case h => tb_rel))); (case u => k_units))))
local macro_rules | `(tactic| walk_at "call type:zip") => `(tactic| (k_here; (with_reducible show wpAny _ _ (call (Value.type "zip") [Value.ref _, Value.ref _] _) _ _ _); k_dflt (refine' Mine.zipT_N ?F ?N ?a ?b ?_; (case F => k_asm); (case N => k_asm); (case a => first | (refine' Mine.isTup_led ?n ?m; (case n => k_asm); (case m => k_mem)) | (refine' Mine.isTup_base ?f ?h; (case f => k_asm); (case h => tb_rel))); (case b => (refine' Mine.isTup_base ?f ?h; (case f => k_asm); (case h => tb_rel))); k_whole); intro z' t' o' i' p1' h' F' N' l1 l2 l3 l4; (try k_sweep)))
local macro_rules | `(tactic| walk_at "eval ListComp") => `(tactic| (k_here; (with_reducible show wpAny _ _ (eval (Expr.ListComp _ [Comprehension.mk (Expr.Tuple _ _ _) _ _ _] _ _) _) _ _ _); k_dflt (refine Mine.comp_zip_none (by k_asm) (by with_unfolding_all rfl) (by decide) (by rfl) (by decide) ?_)))
local macro_rules | `(tactic| walk_at "ZipSrc") => `(tactic| (k_here; k_dflt (refine' Mine.ZipSrc.intro2 ?hh ?F ?N ?a ?l1 ?l2 ?l3 ?l4 ?_; (case hh => exact rfl); (case F => k_asm); (case N => k_asm); (case a => first | (refine' Mine.isTup_led ?n ?m; (case n => k_asm); (case m => k_mem)) | (refine' Mine.isTup_base ?f ?h; (case f => k_asm); (case h => tb_rel))); (case l1 => assumption); (case l2 => assumption); (case l3 => assumption); (case l4 => assumption)); intro D' h' tk' F' N' l5; (try k_lt l5); (try k_sweep)))
namespace Mine
set_option maxRecDepth 100000
set_option maxHeartbeats 8000000
variable {w : World} {p : Program} {loose : List Str} {mean : ExcName → Option Value} {mg mb : Str → Option Value}
def VisAt (h : Heap) (v y : Addr) (b : Bool) : Prop := ∃ d h1 k1 h2 k2 n, hAt h v (instObj 615 d) ∧ hAt h d (dictOf [⟨h1, .str (Str.ofString "right") k1, .ref y⟩, ⟨h2, .str (Str.ofString "proper_subtype") k2, .bool b⟩] n)
theorem visit_instance_does {chs : List (List Nat)} {cs : List Addr} {i j : Nat} {v x y : Addr} {b : Bool} (hi : i < chs.length) (hj : j < chs.length) (hmem : ∀ i k, k ∈ chs.getD i [] → k < chs.length) :
    Does w p loose mean mg mb 8 600 [.ref v, .ref x] [] (fun g => Wd (hAt g) chs cs ∧ InstTo (hAt g) x (cs.getD i 0) ∧ InstTo (hAt g) y (cs.getD j 0) ∧ VisAt g v y b) (fun r tl => tl = [] ∧ r = .bool (sub chs i j)) := by
  intro dp un gd cn cs' a ccd cl outer A₀ base h₀ L m news s Q E B F X N T hk hW hd hu hret
  refine wpAny_call ?_
  (first | (k_dflt (refine' code_defG (binds := [(Str.ofString "self", .ref v), (Str.ofString "left", .ref x)]) ?k1 ?k2 ?k3 ?k4 ?k5 ?kA ?kF ?kK ?k6 ?k7 ?k8 ?k9 ?kB ?_ ?c2 ?c3 ?c4 ?c5; (case kA => exact rfl); (case kF => exact rfl); (case kK => first | exact rfl | assumption); (case k1 => k_asm); (case k2 => k_asm); (case k3 => k_asm); (case k4 => k_asm); (case k5 => k_asm); (case k6 => k_is); (case k7 => k_is); (case k8 => k_room); (case k9 => first | exact BindsTo.of_eq rfl | exact binds_K (by k_in) rfl (by k_is) rfl rfl rfl); (case c5 => decide); (case kB => exact locs rfl); (case c2 => exact rfl); (case c3 => exact rfl); (case c4 => exact rfl); k_whole)) | fail "enter")
  intro g L₁ h₁ FG F₁ N₁ B₁ X₁ T₁ G
  dsimp only [List.reverse, List.reverseAux] at F₁
  (try dsimp only)
  (try k_unmd)
  k_fold
  obtain ⟨hw, hx, hy, hv⟩ := hW _ G
  obtain ⟨dx, tx, px1, qx1, px2, qx2, nx1, nx2, ex1, ex2, ex3⟩ := hx
  obtain ⟨dy, ty, py1, qy1, py2, qy2, ny1, ny2, ey1, ey2, ey3⟩ := hy
  obtain ⟨dv, pv1, qv1, pv2, qv2, nv, ev1, ev2⟩ := hv
  obtain ⟨di, dfi, ddi, tvi, twi, bli, mli, pi0, qi0, pi1, qi1, pi2, qi2, pi3, qi3, pi4, qi4, pi5, qi5, tki, ni1, ni2, ni3, ni4, ni5, ai1, ai2, ai3, ai4, ai5, ai6, ai7, ai8⟩ := hw.cls i hi
  obtain ⟨dj, dfj, ddj, tvj, twj, blj, mlj, pj0, qj0, pj1, qj1, pj2, qj2, pj3, qj3, pj4, qj4, pj5, qj5, tkj, nj1, nj2, nj3, nj4, nj5, aj1, aj2, aj3, aj4, aj5, aj6, aj7, aj8⟩ := hw.cls j hj
  k_steps
  all_goals (refine hret _ [] _ _ (by assumption) (cb_drop (by assumption) (by kcf_all)) (gsub_trans G (Fr.keep (by assumption))) (by simp) ?_; exact ⟨rfl, by simp_all⟩)
end Mine

namespace Mine
set_option maxRecDepth 100000
set_option maxHeartbeats 8000000
variable {w : World} {p : Program} {loose : List Str} {mean : ExcName → Option Value} {mg mb : Str → Option Value}
theorem not_mem_of_lt {news : List (Addr × Obj)} {d : Addr} (l : ∀ p ∈ news, p.1 < d) : d ∉ news.map (·.1) := fun hm => by
  obtain ⟨q, hq, e⟩ := List.mem_map.mp hm
  exact absurd (l q hq) (e ▸ Nat.lt_irrefl _)
theorem wd_obj {At : Addr → Obj → Prop} {chs : List (List Nat)} {cs : List Addr} {i : Nat} (h : Wd At chs cs) (hi : i < chs.length) : ∃ d, At (cs.getD i 0) (instObj 64 d) := by
  obtain ⟨d, df, dd, tv, tv2, bl, ml, h0, k0, h1, k1, h2, k2, h3, k3, h4, k4, h5, k5, tk, n1, n2, n3, n4, n5, a1, _⟩ := h.cls i hi
  exact ⟨d, a1⟩
theorem wd_eq {At : Addr → Obj → Prop} {chs : List (List Nat)} {cs : List Addr} {i j : Nat} (h : Wd At chs cs) (hi : i < chs.length) (hj : j < chs.length) : (cs.getD i 0 == cs.getD j 0) = (i == j) := by
  have hi' : i < cs.length := h.len ▸ hi
  have hj' : j < cs.length := h.len ▸ hj
  by_cases e : i = j
  · subst e; simp
  · rw [beq_eq_false_iff_ne.mpr e, beq_eq_false_iff_ne]
    intro q
    simp only [List.getD_eq_getElem?_getD, List.getElem?_eq_getElem hi', List.getElem?_eq_getElem hj', Option.getD_some] at q
    exact e ((List.getElem_inj h.nodup).mp q)
theorem eq_inst_does {chs : List (List Nat)} {cs : List Addr} {i j : Nat} {x y : Addr} (hi : i < chs.length) (hj : j < chs.length) :
    Does w p loose mean mg mb 4 302 [.ref x, .ref y] [] (fun g => Wd (hAt g) chs cs ∧ InstTo (hAt g) x (cs.getD i 0) ∧ InstTo (hAt g) y (cs.getD j 0)) (fun r tl => tl = [] ∧ r = .bool (i == j)) := by
  intro dp un gd cn cs' a ccd cl outer A₀ base h₀ L m news s Q E B F X N T hk hW hd hu hret
  refine wpAny_call ?_
  (first | (k_dflt (refine' code_defG (binds := [(Str.ofString "self", .ref x), (Str.ofString "other", .ref y)]) ?k1 ?k2 ?k3 ?k4 ?k5 ?kA ?kF ?kK ?k6 ?k7 ?k8 ?k9 ?kB ?_ ?c2 ?c3 ?c4 ?c5; (case kA => exact rfl); (case kF => exact rfl); (case kK => first | exact rfl | assumption); (case k1 => k_asm); (case k2 => k_asm); (case k3 => k_asm); (case k4 => k_asm); (case k5 => k_asm); (case k6 => k_is); (case k7 => k_is); (case k8 => k_room); (case k9 => first | exact BindsTo.of_eq rfl | exact binds_K (by k_in) rfl (by k_is) rfl rfl rfl); (case c5 => decide); (case kB => exact locs rfl); (case c2 => exact rfl); (case c3 => exact rfl); (case c4 => exact rfl); k_whole)) | fail "enter")
  intro g L₁ h₁ FG F₁ N₁ B₁ X₁ T₁ G
  dsimp only [List.reverse, List.reverseAux] at F₁
  (try dsimp only)
  (try k_unmd)
  k_fold
  obtain ⟨hw, hx, hy⟩ := hW _ G
  obtain ⟨dx, tx, px1, qx1, px2, qx2, nx1, nx2, ex1, ex2, ex3⟩ := hx
  obtain ⟨dy, ty, py1, qy1, py2, qy2, ny1, ny2, ey1, ey2, ey3⟩ := hy
  obtain ⟨di, ai1⟩ := wd_obj hw hi
  obtain ⟨dj, aj1⟩ := wd_obj hw hj
  have hij := wd_eq hw hi hj
  k_steps
  all_goals (refine hret _ [] _ _ (by assumption) (cb_drop (by assumption) (by kcf_all)) (gsub_trans G (Fr.keep (by assumption))) (by simp) ?_; exact ⟨rfl, by simp_all⟩)
end Mine

section
open PySem.Spec
namespace Mine
set_option maxRecDepth 100000
theorem news_drop1 {h₀ h : Heap} {L : Addr} {a : Addr × Obj} {news : List (Addr × Obj)} (N : News h₀ L h (a :: news)) : News h₀ L h news := fun q hq => N q (.tail _ hq)
/-- what a visitor is at a ground for a call that lets it go from the ledger -/
theorem visAt_call {h₀ h g : Heap} {L v d y : Addr} {b : Bool} {news : List (Addr × Obj)} {h1 h2 : Int} {k1 k2 : Tok} {n : Nat}
    (N : News h₀ L h ((v, instObj 615 d) :: (d, dictOf [⟨h1, .str (Str.ofString "right") k1, .ref y⟩, ⟨h2, .str (Str.ofString "proper_subtype") k2, .bool b⟩] n) :: news))
    (l1 : AllLt d news) (l2 : d < v) (G : GSub h g (news.map (·.1))) : VisAt g v y b :=
  ⟨d, h1, k1, h2, k2, n, G _ _ (N _ (.head _)).1 (not_mem_of_lt fun q hq => Nat.lt_trans (tb_ltOf l1 q hq) l2), G _ _ (N _ (.tail _ (.head _))).1 (not_mem_of_lt (tb_ltOf l1))⟩
end Mine
end
local macro_rules | `(tactic| tb_start) => `(tactic| first | exact fun _ _ e => e | (refine' Mine.lift_step ?kF ?kk; (case kF => with_reducible assumption); (case kk => tb_start)))
section
open PySem.Spec
set_option maxRecDepth 100000
end
local macro_rules | `(tactic| walk_at "call ref") => `(tactic| (k_here; (with_reducible show wpAny _ _ (call (Value.ref 600) [_, _] []) _ _ _); k_dflt (refine' Mine.Does.use (Mine.visit_instance_does ?hi ?hj ?hm) ?k1 ?k2 ?k3 ?k4 ?k5 ?k6 ?k7 ?k8 ?k9 ?_; (case k1 => k_asm); (case k2 => k_asm); (case k3 => k_asm); (case k4 => exact Mine.news_drop1 (Mine.news_drop1 (by k_asm))); (case k5 => k_asm); (case k6 => first | exact rfl | assumption); (case k7 => (intro g9 G9; refine' ⟨?a, ?b, ?c, ?d⟩; (case d => exact Mine.visAt_call (by assumption) (by assumption) (by assumption) G9); (case a => exact Mine.Wd.lift (by assumption) (Mine.lift_call (by assumption) (Mine.news_drop1 (Mine.news_drop1 (by assumption))) G9 (by tb_start))); (case b => exact Mine.InstTo.lift (by assumption) (Mine.lift_call (by assumption) (Mine.news_drop1 (Mine.news_drop1 (by assumption))) G9 (by tb_start))); (case c => exact Mine.InstTo.lift (by assumption) (Mine.lift_call (by assumption) (Mine.news_drop1 (Mine.news_drop1 (by assumption))) G9 (by tb_start))))); (case hi => assumption); (case hj => assumption); (case hm => assumption); (case k8 => k_room); (case k9 => k_units)); (intro _ _ h' tk' F' N' G' _ hR'; obtain ⟨e1', e2'⟩ := hR'; subst e1'; subst e2'); (try simp only [List.nil_append] at N'); (try dsimp only [PySem.W.CmpBack]); (try k_sweep)))
local macro_rules | `(tactic| walk_at "call ref") => `(tactic| (k_here; (with_reducible show wpAny _ _ (call (Value.ref 302) [_, _] []) _ _ _); k_dflt (refine' Mine.Does.use (Mine.eq_inst_does ?hi ?hj) ?k1 ?k2 ?k3 ?k4 ?k5 ?k6 ?k7 ?k8 ?k9 ?_; (case k1 => k_asm); (case k2 => k_asm); (case k3 => k_asm); (case k4 => k_asm); (case k5 => k_asm); (case k6 => first | exact rfl | assumption); (case k7 => (intro g9 G9; exact ⟨Mine.Wd.lift (by assumption) (Mine.lift_call (by assumption) (by assumption) G9 (by tb_start)), Mine.InstTo.lift (by assumption) (Mine.lift_call (by assumption) (by assumption) G9 (by tb_start)), Mine.InstTo.lift (by assumption) (Mine.lift_call (by assumption) (by assumption) G9 (by tb_start))⟩)); (case hi => assumption); (case hj => assumption); (case k8 => k_room); (case k9 => k_units)); (intro _ _ h' tk' F' N' G' _ hR'; obtain ⟨e1', e2'⟩ := hR'; subst e1'; subst e2'); (try simp only [List.nil_append] at N'); (try dsimp only [PySem.W.CmpBack]); (try k_sweep)))
namespace Mine
set_option maxRecDepth 100000
set_option maxHeartbeats 8000000
variable {w : World} {p : Program} {loose : List Str} {mean : ExcName → Option Value} {mg mb : Str → Option Value}
theorem usub_does {chs : List (List Nat)} {cs : List Addr} {i j : Nat} {x y : Addr} {b : Bool} (hi : i < chs.length) (hj : j < chs.length) (hmem : ∀ i k, k ∈ chs.getD i [] → k < chs.length) :
    Does w p loose mean mg mb 12 544 [.ref x, .ref y, .bool b] [] (fun g => Wd (hAt g) chs cs ∧ InstTo (hAt g) x (cs.getD i 0) ∧ InstTo (hAt g) y (cs.getD j 0)) (fun r tl => tl = [] ∧ r = .bool (sub chs i j)) := by
  intro dp un gd cn cs' a ccd cl outer A₀ base h₀ L m news s Q E B F X N T hk hW hd hu hret
  refine wpAny_call ?_
  (first | (k_dflt (refine' Mine.enterC (binds := [(Str.ofString "left", .ref x), (Str.ofString "right", .ref y), (Str.ofString "proper_subtype", .bool b)]) ?k1 ?k2 ?k3 ?k4 ?k5 ?kA ?kF ?kK ?k6 ?k7 ?k8 ?k9 ?kB ?kD ?_ ?c2 ?c3 ?c4; (case kA => exact rfl); (case kF => exact rfl); (case kK => first | exact rfl | assumption); (case k1 => k_asm); (case k2 => k_asm); (case k3 => k_asm); (case k4 => k_asm); (case k5 => k_asm); (case k6 => k_is); (case k7 => k_is); (case k8 => k_room); (case k9 => first | exact BindsTo.of_eq rfl | exact binds_K (by k_in) rfl (by k_is) rfl rfl rfl); (case kB => exact rfl); (case kD => decide +kernel); (case c2 => exact rfl); (case c3 => exact rfl); (case c4 => exact rfl); k_whole)) | fail "enter")
  intro g L₁ h₁ tk₁ cells FG F₁ N₁ Y₁ B₁ X₁ T₁ G l₁
  (try k_lt l₁)
  k_cells Y₁
  (try simp only [List.cons_append, List.nil_append] at N₁)
  (try dsimp only)
  (try k_unmd)
  k_fold
  obtain ⟨hw, hx, hy⟩ := hW _ G
  have hx' := hx
  have hy' := hy
  obtain ⟨dx, tx, px1, qx1, px2, qx2, nx1, nx2, ex1, ex2, ex3⟩ := hx'
  obtain ⟨dy, ty, py1, qy1, py2, qy2, ny1, ny2, ey1, ey2, ey3⟩ := hy'
  k_steps
  all_goals (refine hret _ [] _ _ (by assumption) (cb_drop (by assumption) (by kcf_all)) (gsub_trans G (Fr.keep (by assumption))) (by simp) ?_; exact ⟨rfl, rfl⟩)
end Mine

section
open PySem.Spec
set_option maxRecDepth 100000
end
local macro_rules | `(tactic| walk_at "call ref") => `(tactic| (k_here; (with_reducible show wpAny _ _ (call (Value.ref 544) [_, _, _] []) _ _ _); k_dflt (refine' Mine.Does.use (Mine.usub_does ?hi ?hj ?hm) ?k1 ?k2 ?k3 ?k4 ?k5 ?k6 ?k7 ?k8 ?k9 ?_; (case k1 => k_asm); (case k2 => k_asm); (case k3 => k_asm); (case k4 => k_asm); (case k5 => k_asm); (case k6 => first | exact rfl | assumption); (case k7 => (intro g9 G9; refine' ⟨?a, ?b, ?c⟩; (case a => exact Mine.Wd.lift (by assumption) (Mine.lift_call (by assumption) (by assumption) G9 (by tb_start))); (case b => exact Mine.InstTo.lift (by assumption) (Mine.lift_call (by assumption) (by assumption) G9 (by tb_start))); (case c => exact Mine.InstTo.lift (by assumption) (Mine.lift_call (by assumption) (by assumption) G9 (by tb_start))))); (case hi => assumption); (case hj => assumption); (case hm => assumption); (case k8 => k_room); (case k9 => k_units)); (intro _ _ h' tk' F' N' G' _ hR'; obtain ⟨e1', e2'⟩ := hR'; subst e1'; subst e2'); (try simp only [List.nil_append] at N'); (try dsimp only [PySem.W.CmpBack]); (try k_sweep)))
namespace Mine
set_option maxRecDepth 100000
set_option maxHeartbeats 8000000
variable {w : World} {p : Program} {loose : List Str} {mean : ExcName → Option Value} {mg mb : Str → Option Value}
theorem is_subtype2_does {chs : List (List Nat)} {cs : List Addr} {i j : Nat} {x y : Addr} (hi : i < chs.length) (hj : j < chs.length) (hmem : ∀ i k, k ∈ chs.getD i [] → k < chs.length) (hs : ∀ i, i < chs.length → sub chs i i = true) :
    Does w p loose mean mg mb 15 520 [.ref x, .ref y] [] (fun g => Wd (hAt g) chs cs ∧ InstTo (hAt g) x (cs.getD i 0) ∧ InstTo (hAt g) y (cs.getD j 0)) (fun r tl => tl = [] ∧ r = .bool (sub chs i j)) := by
  intro dp un gd cn cs' a ccd cl outer A₀ base h₀ L m news s Q E B F X N T hk hW hd hu hret
  refine wpAny_call ?_
  (first | (k_dflt (refine' code_defG (binds := [(Str.ofString "left", .ref x), (Str.ofString "right", .ref y), (Str.ofString "proper_subtype", .bool false)]) ?k1 ?k2 ?k3 ?k4 ?k5 ?kA ?kF ?kK ?k6 ?k7 ?k8 ?k9 ?kB ?_ ?c2 ?c3 ?c4 ?c5; (case kA => exact rfl); (case kF => exact rfl); (case kK => first | exact rfl | assumption); (case k1 => k_asm); (case k2 => k_asm); (case k3 => k_asm); (case k4 => k_asm); (case k5 => k_asm); (case k6 => k_is); (case k7 => k_is); (case k8 => k_room); (case k9 => first | exact BindsTo.of_eq rfl | exact binds_K (by k_in) rfl (by k_is) rfl rfl rfl); (case c5 => decide); (case kB => exact locs rfl); (case c2 => exact rfl); (case c3 => exact rfl); (case c4 => exact rfl); k_whole)) | fail "enter")
  intro g L₁ h₁ FG F₁ N₁ B₁ X₁ T₁ G
  dsimp only [List.reverse, List.reverseAux] at F₁
  (try dsimp only)
  (try k_unmd)
  k_fold
  obtain ⟨hw, hx, hy⟩ := hW _ G
  have hx' := hx
  have hy' := hy
  obtain ⟨dx, tx, px1, qx1, px2, qx2, nx1, nx2, ex1, ex2, ex3⟩ := hx'
  obtain ⟨dy, ty, py1, qy1, py2, qy2, ny1, ny2, ey1, ey2, ey3⟩ := hy'
  k_steps
  all_goals (refine hret _ [] _ _ (by assumption) (cb_drop (by assumption) (by kcf_all)) (gsub_trans G (Fr.keep (by assumption))) (by simp) ?_; first | exact ⟨rfl, rfl⟩ | exact ⟨rfl, by rw [show i = j from eq_of_beq (by assumption), hs j hj]⟩)
theorem is_subtype3_does {chs : List (List Nat)} {cs : List Addr} {i j : Nat} {x y : Addr} {b : Bool} (hi : i < chs.length) (hj : j < chs.length) (hmem : ∀ i k, k ∈ chs.getD i [] → k < chs.length) (hs : ∀ i, i < chs.length → sub chs i i = true) :
    Does w p loose mean mg mb 15 520 [.ref x, .ref y, .bool b] [] (fun g => Wd (hAt g) chs cs ∧ InstTo (hAt g) x (cs.getD i 0) ∧ InstTo (hAt g) y (cs.getD j 0)) (fun r tl => tl = [] ∧ r = .bool (sub chs i j)) := by
  intro dp un gd cn cs' a ccd cl outer A₀ base h₀ L m news s Q E B F X N T hk hW hd hu hret
  refine wpAny_call ?_
  (first | (k_dflt (refine' code_defG (binds := [(Str.ofString "left", .ref x), (Str.ofString "right", .ref y), (Str.ofString "proper_subtype", .bool b)]) ?k1 ?k2 ?k3 ?k4 ?k5 ?kA ?kF ?kK ?k6 ?k7 ?k8 ?k9 ?kB ?_ ?c2 ?c3 ?c4 ?c5; (case kA => exact rfl); (case kF => exact rfl); (case kK => first | exact rfl | assumption); (case k1 => k_asm); (case k2 => k_asm); (case k3 => k_asm); (case k4 => k_asm); (case k5 => k_asm); (case k6 => k_is); (case k7 => k_is); (case k8 => k_room); (case k9 => first | exact BindsTo.of_eq rfl | exact binds_K (by k_in) rfl (by k_is) rfl rfl rfl); (case c5 => decide); (case kB => exact locs rfl); (case c2 => exact rfl); (case c3 => exact rfl); (case c4 => exact rfl); k_whole)) | fail "enter")
  intro g L₁ h₁ FG F₁ N₁ B₁ X₁ T₁ G
  dsimp only [List.reverse, List.reverseAux] at F₁
  (try dsimp only)
  (try k_unmd)
  k_fold
  obtain ⟨hw, hx, hy⟩ := hW _ G
  have hx' := hx
  have hy' := hy
  obtain ⟨dx, tx, px1, qx1, px2, qx2, nx1, nx2, ex1, ex2, ex3⟩ := hx'
  obtain ⟨dy, ty, py1, qy1, py2, qy2, ny1, ny2, ey1, ey2, ey3⟩ := hy'
  k_steps
  all_goals (refine hret _ [] _ _ (by assumption) (cb_drop (by assumption) (by kcf_all)) (gsub_trans G (Fr.keep (by assumption))) (by simp) ?_; first | exact ⟨rfl, rfl⟩ | exact ⟨rfl, by rw [show i = j from eq_of_beq (by assumption), hs j hj]⟩)
theorem is_subtypeK_does {chs : List (List Nat)} {cs : List Addr} {i j : Nat} {x y : Addr} {b : Bool} (hi : i < chs.length) (hj : j < chs.length) (hmem : ∀ i k, k ∈ chs.getD i [] → k < chs.length) (hs : ∀ i, i < chs.length → sub chs i i = true) :
    Does w p loose mean mg mb 15 520 [.ref x, .ref y] [(Str.ofString "proper_subtype", .bool b)] (fun g => Wd (hAt g) chs cs ∧ InstTo (hAt g) x (cs.getD i 0) ∧ InstTo (hAt g) y (cs.getD j 0)) (fun r tl => tl = [] ∧ r = .bool (sub chs i j)) := by
  intro dp un gd cn cs' a ccd cl outer A₀ base h₀ L m news s Q E B F X N T hk hW hd hu hret
  refine wpAny_call ?_
  (first | (k_dflt (refine' code_defG (binds := [(Str.ofString "left", .ref x), (Str.ofString "right", .ref y), (Str.ofString "proper_subtype", .bool b)]) ?k1 ?k2 ?k3 ?k4 ?k5 ?kA ?kF ?kK ?k6 ?k7 ?k8 ?k9 ?kB ?_ ?c2 ?c3 ?c4 ?c5; (case kA => exact rfl); (case kF => exact rfl); (case kK => first | exact rfl | assumption); (case k1 => k_asm); (case k2 => k_asm); (case k3 => k_asm); (case k4 => k_asm); (case k5 => k_asm); (case k6 => k_is); (case k7 => k_is); (case k8 => k_room); (case k9 => first | exact BindsTo.of_eq rfl | exact binds_K (by k_in) rfl (by k_is) rfl rfl rfl); (case c5 => decide); (case kB => exact locs rfl); (case c2 => exact rfl); (case c3 => exact rfl); (case c4 => exact rfl); k_whole)) | fail "enter")
  intro g L₁ h₁ FG F₁ N₁ B₁ X₁ T₁ G
  dsimp only [List.reverse, List.reverseAux] at F₁
  (try dsimp only)
  (try k_unmd)
  k_fold
  obtain ⟨hw, hx, hy⟩ := hW _ G
  have hx' := hx
  have hy' := hy
  obtain ⟨dx, tx, px1, qx1, px2, qx2, nx1, nx2, ex1, ex2, ex3⟩ := hx'
  obtain ⟨dy, ty, py1, qy1, py2, qy2, ny1, ny2, ey1, ey2, ey3⟩ := hy'
  k_steps
  all_goals (refine hret _ [] _ _ (by assumption) (cb_drop (by assumption) (by kcf_all)) (gsub_trans G (Fr.keep (by assumption))) (by simp) ?_; first | exact ⟨rfl, rfl⟩ | exact ⟨rfl, by rw [show i = j from eq_of_beq (by assumption), hs j hj]⟩)
end Mine

section
open PySem.Spec
namespace Mine
set_option maxRecDepth 100000
set_option maxHeartbeats 4000000
/-! ## comprehensions by what holds between the turns -/
section
variable {prog : Program} {w : World} {A : Around} {E : Value → Shared → Prop} {s : Shared} {h₀ : Heap} {L : Addr} {m : Str → Option Value} {env : Env}
/-- no test, a plain target -/
theorem rest_inv {elt : Expr} {x : Str} {scope : Scope} {cl : List (Str × Addr)} {S : List (Addr × Obj) → Prop} {P : Nat → Value → Prop} {Fin : List Value → List (Addr × Obj) → Prop} {n : Nat} {news : List (Addr × Obj)}
    (J : Nat → List Value → List (Addr × Obj) → Prop) (h0 : J 0 [] news)
    (turn : ∀ i v I oI C oC D m₂ ys nx h tk (E' : Value → Shared → Prop), i < n → P i v → J i ys nx → LCg.NsObj oC m₂ → m₂ x = some v → Fr h₀ L h m → News h₀ L h ((I, oI) :: (C, oC) :: (D, LCg.lst ys) :: nx) → LCg.Off3 I C D nx → ((@Ne Nat I C) ∧ (@Ne Nat I D) ∧ (@Ne Nat C D)) →
      wpAny (model prog w) A (eval elt (compEnvC scope cl C env)) (LCg.CompEnd h₀ L m { s with heap := h, toks := tk } I oI C oC D (LCg.lst ys) S (fun y nx' => J (i + 1) (ys ++ [y]) nx')) E' { s with heap := h, toks := tk })
    (fin : ∀ ys nx, J n ys nx → Fin ys nx) : LCg.CompRest prog w A h₀ L m env elt x scope cl s S P Fin n 0 [] news := by
  have key : ∀ (j i : Nat) (ys : List Value) (nx : List (Addr × Obj)), i + j = n → J i ys nx → LCg.CompRest prog w A h₀ L m env elt x scope cl s S P Fin j i ys nx := by
    intro j
    induction j with
    | zero =>
      intro i ys nx hi hj
      obtain rfl : i = n := by omega
      exact LCg.CompRest.zero (fin ys nx hj)
    | succ j ih =>
      intro i ys nx hi hj
      refine LCg.CompRest.succ ?_
      intro v I oI C oC D m₂ h tk E' hv hC hx F N off ne
      refine wpAny_mono (turn i v I oI C oC D m₂ ys nx h tk E' (by omega) hv hj hC hx F N off ne) (fun y s₂ hq => ?_) fun _ _ e => e
      obtain ⟨h', tk', nw, e, F', N', off', hS, hn⟩ := hq
      exact ⟨h', tk', nw, e, F', N', off', hS, ih (i + 1) _ _ (by omega) hn⟩
  exact key n 0 [] news (by omega) h0
/-- one test, a plain target -/
theorem restT_inv {ct elt : Expr} {x : Str} {scope : Scope} {cl : List (Str × Addr)} {S : List (Addr × Obj) → Prop} {P : Nat → Value → Prop} {Fin : List Value → List (Addr × Obj) → Prop} {n : Nat} {news : List (Addr × Obj)}
    (J : Nat → List Value → List (Addr × Obj) → Prop) (h0 : J 0 [] news)
    (turn : ∀ i v I oI C oC D m₂ ys nx h tk (E' : Value → Shared → Prop), i < n → P i v → J i ys nx → LCg.NsObj oC m₂ → m₂ x = some v → Fr h₀ L h m → News h₀ L h ((I, oI) :: (C, oC) :: (D, LCg.lst ys) :: nx) → LCg.Off3 I C D nx → ((@Ne Nat I C) ∧ (@Ne Nat I D) ∧ (@Ne Nat C D)) →
      wpAny (model prog w) A (isTrue ct (compEnvC scope cl C env) (eval ct (compEnvC scope cl C env))) (fun ok s' => if ok = true then
        wpAny (model prog w) A (eval elt (compEnvC scope cl C env)) (LCg.CompEnd h₀ L m { s with heap := h, toks := tk } I oI C oC D (LCg.lst ys) S (fun y nx' => J (i + 1) (ys ++ [y]) nx')) E' s'
        else LCg.CompEnd h₀ L m { s with heap := h, toks := tk } I oI C oC D (LCg.lst ys) S (fun _ nx' => J (i + 1) ys nx') Value.none s') E' { s with heap := h, toks := tk })
    (fin : ∀ ys nx, J n ys nx → Fin ys nx) : LCt.CompRestT prog w A h₀ L m env ct elt x scope cl s S P Fin n 0 [] news := by
  have key : ∀ (j i : Nat) (ys : List Value) (nx : List (Addr × Obj)), i + j = n → J i ys nx → LCt.CompRestT prog w A h₀ L m env ct elt x scope cl s S P Fin j i ys nx := by
    intro j
    induction j with
    | zero =>
      intro i ys nx hi hj
      obtain rfl : i = n := by omega
      exact LCt.CompRestT.zero (fin ys nx hj)
    | succ j ih =>
      intro i ys nx hi hj
      refine LCt.CompRestT.succ ?_
      intro v I oI C oC D m₂ h tk E' hv hC hx F N off ne
      refine wpAny_mono (turn i v I oI C oC D m₂ ys nx h tk E' (by omega) hv hj hC hx F N off ne) (fun ok s₂ hq => ?_) fun _ _ e => e
      cases ok with
      | true =>
        refine wpAny_mono hq (fun y s₃ hq => ?_) fun _ _ e => e
        obtain ⟨h', tk', nw, e, F', N', off', hS, hn⟩ := hq
        exact ⟨h', tk', nw, e, F', N', off', hS, ih (i + 1) _ _ (by omega) hn⟩
      | false =>
        obtain ⟨h', tk', nw, e, F', N', off', hS, hn⟩ := hq
        exact ⟨h', tk', nw, e, F', N', off', hS, ih (i + 1) _ _ (by omega) hn⟩
  exact key n 0 [] news (by omega) h0

/-! ### a target that is a cell -/
abbrev cellO (v : Option Value) : Obj := { cls := .type "cell", data := .cell v }
theorem newEnv_cell {scope : Scope} {cl : List (Str × Addr)} {x : Str} {Q : Env → Shared → Prop} (hcf : ∀ n, cellsFrom n scope.names cl = (x, n) :: cl) (hpc : ∀ h, pushCells h scope.names = h.push (cellO none))
    (h : Q { scope, locals := s.heap.objs.size, globals := env.globals, cells := (x, s.heap.objs.size + 1) :: cl, qual := env.qual, func := none, code := env.code, frame := env.frame, builtins := env.builtins }
      { s with heap := (s.heap.push { cls := .type "dict", data := .dict #[] }).push (cellO none) }) :
    wpAny (model prog w) A (newFunctionEnv scope env.globals cl [] env.qual none .none (some env)) Q E s := by
  simp only [newFunctionEnv, Option.isSome_some, if_true]
  refine wpAny_bind (wpAny_alloc ?_)
  refine wpAny_bind (wpAny_layCells _ (fun name kind cells => by cases hkc : kind == NameKind.cell <;> simp [hkc]) _ _ _ _ ?_)
  rw [hcf, hpc]
  rw [show ({ s with heap := s.heap.push { cls := .type "dict", data := .dict #[] } } : Shared).heap.objs.size = s.heap.objs.size + 1 from Heap.size_push ..]
  rw [List.forIn_nil]
  exact wpAny_bind (wpAny_pure (wpAny_pure h))

/-- a turn's end -/
def KEnd (h₀ : Heap) (L : Addr) (m : Str → Option Value) (s₁ : Shared) (fix : List (Addr × Obj)) (S : List (Addr × Obj) → Prop) (rest : List (Addr × Obj) → Prop) (s₂ : Shared) : Prop :=
  ∃ h' tk nx, s₂ = { s₁ with heap := h', toks := tk } ∧ Fr h₀ L h' m ∧ News h₀ L h' (fix ++ nx) ∧ (∀ p ∈ nx, ∀ q ∈ fix, p.1 ≠ q.1) ∧ S nx ∧ rest nx
theorem KEnd.intro {s₁ : Shared} {fix all : List (Addr × Obj)} {S rest : List (Addr × Obj) → Prop} {h' : Heap} {tk : Nat} (F : Fr h₀ L h' m) (N : News h₀ L h' all) (nx : List (Addr × Obj)) (sub : ∀ p ∈ fix ++ nx, p ∈ all)
    (off : ∀ p ∈ nx, ∀ q ∈ fix, p.1 ≠ q.1) (hS : S nx) (r : rest nx) : KEnd h₀ L m s₁ fix S rest { s₁ with heap := h', toks := tk } := ⟨h', tk, nx, rfl, F, fun p hp => N p (sub p hp), off, hS, r⟩

theorem ListComp_K {elt iter : Expr} {ifs : List Expr} {x : Str} {px : Pos} {scope : Scope} {cl : List (Str × Addr)} {pos : Pos} {Q : Value → Shared → Prop} (J : Nat → List Value → List (Addr × Obj) → Prop)
    (hclos : closureFor scope env = pure cl) (hcf : ∀ n, cellsFrom n scope.names cl = (x, n) :: cl) (hpc : ∀ h, pushCells h scope.names = h.push (cellO none)) (hkind : scope.kind = .function)
    (hnames : ∀ y ∈ scope.names, y.2 = .local → scope.names.lookup y.1 = some .local) (hxk : ∀ C K, (compEnvC scope ((x, K) :: cl) C env).kindOf x = some .cell)
    (h : wpAny (model prog w) A (eval iter env) (fun xv s₁ => ∃ ax its news, xv = .ref ax ∧ A.handled = none ∧ Fr h₀ L s₁.heap m ∧ News h₀ L s₁.heap news ∧ LCg.SrcAt h₀ ax its news ∧ its.size ≤ sizeLine ∧ J 0 [] news ∧
      (∀ g i v ys nx I oI C oC K oK D h tk (E' : Value → Shared → Prop), its[i]? = some v → oK.data = .cell (some v) → J i ys nx → LCg.SrcAt h₀ ax its nx → Fr h₀ L h m → News h₀ L h ([(I, oI), (C, oC), (K, oK), (D, LCg.lst ys)] ++ nx) → (∀ p ∈ nx, ∀ q ∈ [(I, oI), (C, oC), (K, oK), (D, LCg.lst ys)], p.1 ≠ q.1) →
        wpAny (model prog w) A (forIn ifs true fun c r => if r = true then do let ok ← isTrue c (compEnvC scope ((x, K) :: cl) C env) (eval c (compEnvC scope ((x, K) :: cl) C env)); pure (ForInStep.yield ok) else pure (ForInStep.yield r))
          (fun ok s' => if ok = true then wpAny (model prog w) A (eval elt (compEnvC scope ((x, K) :: cl) C env)) (fun y => KEnd h₀ L m { s₁ with heap := g, toks := tk } [(I, oI), (C, oC), (K, oK), (D, LCg.lst ys)] (LCg.SrcAt h₀ ax its) (J (i + 1) (ys ++ [y]))) E' s'
            else KEnd h₀ L m { s₁ with heap := g, toks := tk } [(I, oI), (C, oC), (K, oK), (D, LCg.lst ys)] (LCg.SrcAt h₀ ax its) (J (i + 1) ys) s') E' { s₁ with heap := h, toks := tk }) ∧
      (∀ D ys nx h tk, J its.size ys nx → Fr h₀ L h m → News h₀ L h ((D, LCg.lst ys) :: nx) → (∀ p ∈ nx, p.1 ≠ D) → Q (.ref D) { s₁ with heap := h, toks := tk })) E s)
    (hs : ∀ x, foldedSetIterable iter env x = pure x := by intro _; rfl) :
    wpAny (model prog w) A (eval (.ListComp elt [⟨.Name x px, iter, ifs, 0⟩] scope pos) env) Q E s := by
  rw [eval_ListComp]
  refine wpAny_comprehension_free (use := none) rfl hs hclos hkind hnames (wpAny_mono h (fun xv s₁ h₁ => ?_) fun _ _ e => e)
  obtain ⟨ax, its, news, rfl, hh, F, N, S, hsz, hj, turn, fin⟩ := h₁
  have hl := S.list F.keep N
  have hlt : ax < s₁.heap.objs.size := by obtain ⟨_, e, _⟩ := hl; exact Heap.lt_size e
  refine wpAny_pyIter_list hl ?_
  have W := Walks.list (prog := prog) (w := w) (A := A) hh s₁.heap.objs.size ax (Nat.ne_of_lt hlt) its
  generalize hI : s₁.heap.objs.size = I at W ⊢
  have fresh : ∀ a, s₁.heap.objs.size ≤ a → h₀.get? a = none := fun a ha => by
    cases e : h₀.get? a with
    | none => rfl
    | some o => exact absurd (Nat.lt_of_lt_of_le (Heap.lt_size (F.keep a o e)) ha) (Nat.lt_irrefl _)
  generalize hH1 : s₁.heap.push { cls := .type "list_iterator", data := .fields #[.ref ax, .int 0 0] } = H1
  have z1 : H1.objs.size = I + 1 := by rw [← hH1, Heap.size_push, hI]
  have F1 : Fr h₀ L H1 m := by rw [← hH1]; exact F.push _
  have N1 : News h₀ L H1 ((I, { cls := .type "list_iterator", data := .fields #[.ref ax, .int 0 0] }) :: news) := by rw [← hH1, ← hI]; exact N.push F _
  refine wpAny_newObj_type (newEnv_cell hcf hpc ?_)
  dsimp only
  generalize hD : H1.objs.size = D
  have zD : D = I + 1 := by rw [← hD, z1]
  generalize hH2 : H1.push { cls := .type "list", dict := none, data := .seq ([] : List Value).toArray } = H2
  have z2 : H2.objs.size = D + 1 := by rw [← hH2, Heap.size_push, hD]
  have F2 : Fr h₀ L H2 m := by rw [← hH2]; exact F1.push _
  have N2 : News h₀ L H2 ((D, LCg.lst []) :: (I, { cls := .type "list_iterator", data := .fields #[.ref ax, .int 0 0] }) :: news) := by rw [← hH2, ← hD]; exact N1.push F1 _
  generalize hC : H2.objs.size = C
  have zC : C = D + 1 := by rw [← hC, z2]
  generalize hH3 : (H2.push { cls := .type "dict", data := .dict #[] }).push (cellO none) = H3
  have F3 : Fr h₀ L H3 m := by rw [← hH3]; exact (F2.push _).push _
  have N3' : News h₀ L (H2.push { cls := .type "dict", data := .dict #[] }) ((C, { cls := .type "dict", data := .dict #[] }) :: (D, LCg.lst []) :: (I, { cls := .type "list_iterator", data := .fields #[.ref ax, .int 0 0] }) :: news) := by rw [← hC]; exact N2.push F2 _
  have N3 : News h₀ L H3 ((C + 1, cellO none) :: (C, { cls := .type "dict", data := .dict #[] }) :: (D, LCg.lst []) :: (I, { cls := .type "list_iterator", data := .fields #[.ref ax, .int 0 0] }) :: news) := by
    rw [← hH3, show C + 1 = (H2.push { cls := .type "dict", data := .dict #[] }).objs.size by rw [Heap.size_push, hC]]
    exact N3'.push (F2.push _) _
  have nsC : H3.Ns C (fun _ => none) := by
    rw [← hH3, ← hC]
    exact (Heap.Ns.new H2 (.type "dict")).keeps fun b o e => Heap.get?_push_of_some _ e
  have lo : ∀ p ∈ news, p.1 < I := fun p hp => hI ▸ Heap.lt_size (N p hp).1
  have hLI : L < I := hI ▸ F.ns.lt
  have i0 : h₀.get? I = none := fresh _ (by omega)
  have c0 : h₀.get? C = none := fresh _ (by omega)
  have k0 : h₀.get? (C + 1) = none := fresh _ (by omega)
  have d0 : h₀.get? D = none := fresh _ (by omega)
  have hlI : ax < I := hI ▸ hlt
  -- the loop
  have loop : ∀ s₃ : Shared, s₃ = { s₁ with heap := H3 } →
      codeAny (model prog w) A (.compLoop (.ListComp elt [⟨.Name x px, iter, ifs, 0⟩] scope pos) 0 (.ref I) (.ref D) (compEnvC scope ((x, C + 1) :: cl) C env))
        (compPost (model prog w) A E none Q (.ref D) C) s₃ := by
    rintro s₃ rfl
    refine codeAny_compLoop_tests
      (fun k s' => ∃ h' tk i ys oK ov m' nx, s' = { s₁ with heap := h', toks := tk } ∧ i ≤ its.size ∧ k = its.size + 1 - i ∧ ys.length ≤ i ∧ (h'.IsListIter I ax i ∧ h'.IsList ax its) ∧ Fr h₀ L h' m ∧ h'.Ns C m' ∧ oK.data = .cell ov ∧
        News h₀ L h' ((C + 1, oK) :: (D, LCg.lst ys) :: nx) ∧ (∀ p ∈ nx, p.1 ≠ I ∧ p.1 ≠ C ∧ p.1 ≠ C + 1 ∧ p.1 ≠ D) ∧ LCg.SrcAt h₀ ax its nx ∧ J i ys nx) ?_ (its.size + 1)
      ⟨H3, _, 0, [], cellO none, none, _, news, rfl, Nat.zero_le _, rfl, Nat.le_refl _, ⟨⟨_, (N3 _ (.tail _ (.tail _ (.tail _ (.head _))))).1, rfl, rfl⟩, S.list F3.keep (fun p hp => N3 p (.tail _ (.tail _ (.tail _ (.tail _ hp)))))⟩, F3, nsC, rfl,
        (fun p hp => N3 p (by rcases List.mem_cons.mp hp with rfl | hp; exact .head _; rcases List.mem_cons.mp hp with rfl | hp; exact .tail _ (.tail _ (.head _)); exact .tail _ (.tail _ (.tail _ (.tail _ hp))))),
        (fun p hp => by have : @LT.lt Nat _ p.1 I := lo p hp; refine ⟨?_, ?_, ?_, ?_⟩ <;> exact Nat.ne_of_lt (by omega)), S, hj⟩
    rintro k s' ⟨h', tk, i, ys, oK, ov, m', nx, rfl, hi, rfl, hyl, hst, F', hn', hoK, N', off, S', hJ⟩
    have hLI' : @LT.lt Nat _ L I := hLI
    by_cases hlt' : i < its.size
    · refine W.item i _ _ _ hlt' hst fun v h₂ tk₂ hPv hst₂ hk₂ => ?_
      have keep₂ : ∀ b o, b ≠ I → h'.get? b = some o → h₂.get? b = some o := fun b o hb e => hk₂ b o (by simpa using hb) e
      have hK₂ : h₂.get? (C + 1) = some oK := keep₂ _ _ (by omega) (N' _ (.head _)).1
      refine wpAny_assign_Name (wpAny_storeName_cell (by show scope.kind = _; exact hkind) (hxk C (C + 1)) (c := C + 1) (by show List.lookup x ((x, C + 1) :: cl) = _; simp) ⟨_, hK₂, hoK⟩ fun h₃ hv₃ hs₃ => ?_)
      obtain ⟨oK', hK₃, hoK'⟩ := hv₃
      have keep₃ : ∀ b o, b ≠ I → b ≠ C + 1 → h'.get? b = some o → h₃.get? b = some o := fun b o hb hb' e => hs₃.extBut b o hb' (keep₂ b o hb e)
      obtain ⟨⟨oI, eI, cI, dI⟩, l₂⟩ := hst₂
      have eI₃ : h₃.get? I = some oI := hs₃.extBut _ _ (by show (I : Nat) ≠ C + 1; omega) eI
      obtain ⟨oC, eC₂, hoC⟩ := LCg.ns_obj (hn'.at' fun o e => keep₂ C o (by omega) e)
      have eC₃ : h₃.get? C = some oC := hs₃.extBut _ _ (by show (C : Nat) ≠ C + 1; omega) eC₂
      have F₃ : Fr h₀ L h₃ m := ⟨F'.ns.at' fun o e => keep₃ L o (by omega) (by omega) e, fun b o e => keep₃ b o (fun q => by rw [q, i0] at e; cases e) (fun q => by rw [q, k0] at e; cases e) (F'.keep b o e), F'.above⟩
      have N₃ : News h₀ L h₃ ([(I, oI), (C, oC), (C + 1, oK'), (D, LCg.lst ys)] ++ nx) := fun p hp => by
        simp only [List.cons_append, List.nil_append, List.mem_cons] at hp
        rcases hp with rfl | rfl | rfl | rfl | hp
        · exact ⟨eI₃, (by show (I : Nat) ≠ L; omega), i0⟩
        · exact ⟨eC₃, (by show (C : Nat) ≠ L; omega), c0⟩
        · exact ⟨hK₃, (by show (C + 1 : Nat) ≠ L; omega), k0⟩
        · exact ⟨keep₃ _ _ (by show (D : Nat) ≠ I; omega) (by show (D : Nat) ≠ C + 1; omega) (N' _ (.tail _ (.head _))).1, (N' _ (.tail _ (.head _))).2⟩
        · have o4 := off p hp
          exact ⟨keep₃ _ _ o4.1 o4.2.2.1 (N' p (.tail _ (.tail _ hp))).1, (N' p (.tail _ (.tail _ hp))).2⟩
      have off₃ : ∀ p ∈ nx, ∀ q ∈ [(I, oI), (C, oC), (C + 1, oK'), (D, LCg.lst ys)], p.1 ≠ q.1 := fun p hp q hq => by
        have o4 := off p hp
        simp only [List.mem_cons, List.not_mem_nil, or_false] at hq
        rcases hq with rfl | rfl | rfl | rfl
        · exact o4.1
        · exact o4.2.1
        · exact o4.2.2.1
        · exact o4.2.2.2
      have close : ∀ (ys' : List Value) (s₄ : Shared), KEnd h₀ L m { s₁ with heap := H3, toks := tk₂ } [(I, oI), (C, oC), (C + 1, oK'), (D, LCg.lst ys')] (LCg.SrcAt h₀ ax its) (J (i + 1) ys') s₄ → ys'.length ≤ i + 1 →
          ∃ mm, mm < its.size + 1 - i ∧ ∃ h' tk i ys oK ov m' nx, s₄ = { s₁ with heap := h', toks := tk } ∧ i ≤ its.size ∧ mm = its.size + 1 - i ∧ ys.length ≤ i ∧ (h'.IsListIter I ax i ∧ h'.IsList ax its) ∧ Fr h₀ L h' m ∧ h'.Ns C m' ∧ oK.data = .cell ov ∧
            News h₀ L h' ((C + 1, oK) :: (D, LCg.lst ys) :: nx) ∧ (∀ p ∈ nx, p.1 ≠ I ∧ p.1 ≠ C ∧ p.1 ≠ C + 1 ∧ p.1 ≠ D) ∧ LCg.SrcAt h₀ ax its nx ∧ J i ys nx := by
        rintro ys' s₄ ⟨h₄, tk₄, nx₄, rfl, F₄, N₄, off₄, S₄, J₄⟩ hyl'
        refine ⟨its.size + 1 - (i + 1), by omega, h₄, tk₄, i + 1, ys', oK', some v, _, nx₄, rfl, hlt', rfl, hyl', ⟨⟨oI, (N₄ (I, oI) (.head _)).1, cI, dI⟩, S₄.list F₄.keep fun p hp => N₄ p (List.mem_append_right _ hp)⟩, F₄, hoC.ns (N₄ (C, oC) (.tail _ (.head _))).1, hoK', fun p hp => N₄ p ?_, fun p hp => ⟨off₄ p hp _ (.head _), off₄ p hp _ (.tail _ (.head _)), off₄ p hp _ (.tail _ (.tail _ (.head _))), off₄ p hp _ (.tail _ (.tail _ (.tail _ (.head _))))⟩, S₄, J₄⟩
        rcases List.mem_cons.mp hp with rfl | hp
        · exact .tail _ (.tail _ (.head _))
        · rcases List.mem_cons.mp hp with rfl | hp
          · exact .tail _ (.tail _ (.tail _ (.head _)))
          · exact List.mem_append_right _ hp
      refine wpAny_mono (turn H3 i v ys nx I oI C oC (C + 1) oK' D h₃ tk₂ _ hPv hoK' hJ S' F₃ N₃ off₃) (fun ok s₄ h₄ => ?_) fun _ _ e => e
      cases ok with
      | true =>
        refine wpAny_mono h₄ (fun y s₅ h₅ => ?_) fun _ _ e => e
        obtain ⟨h₅', tk₅, nx₅, rfl, F₅, N₅, off₅, S₅, J₅⟩ := h₅
        refine append_at (hsz := by show ys.toArray.size ≤ sizeLine; rw [List.size_toArray]; omega) (N₅ (D, LCg.lst ys) (.tail _ (.tail _ (.tail _ (.head _))))).1 fun h₆ hs₆ hD₆ => ?_
        refine close (ys ++ [y]) _ ⟨h₆, tk₅, nx₅, rfl, F₅.change hs₆ (by show (D : Nat) ≠ L; omega) d0, fun p hp => ?_, fun p hp q hq => ?_, S₅, J₅⟩ (by rw [List.length_append, List.length_singleton]; omega)
        · simp only [List.cons_append, List.nil_append, List.mem_cons] at hp
          rcases hp with rfl | rfl | rfl | rfl | hp
          · exact ⟨hs₆.extBut _ _ (by show (I : Nat) ≠ D; omega) (N₅ (I, oI) (.head _)).1, (N₅ (I, oI) (.head _)).2⟩
          · exact ⟨hs₆.extBut _ _ (by show (C : Nat) ≠ D; omega) (N₅ (C, oC) (.tail _ (.head _))).1, (N₅ (C, oC) (.tail _ (.head _))).2⟩
          · exact ⟨hs₆.extBut _ _ (by show (C + 1 : Nat) ≠ D; omega) (N₅ (C + 1, oK') (.tail _ (.tail _ (.head _)))).1, (N₅ (C + 1, oK') (.tail _ (.tail _ (.head _)))).2⟩
          · exact ⟨hD₆.trans (congrArg some (LCg.lst_snoc ys y)), (N₅ (D, LCg.lst ys) (.tail _ (.tail _ (.tail _ (.head _))))).2⟩
          · have z := N₅ p (List.mem_append_right _ hp)
            exact ⟨hs₆.extBut _ _ (off₅ p hp _ (.tail _ (.tail _ (.tail _ (.head _))))) z.1, z.2⟩
        · simp only [List.mem_cons, List.not_mem_nil, or_false] at hq
          rcases hq with rfl | rfl | rfl | rfl
          · exact off₅ p hp (I, oI) (.head _)
          · exact off₅ p hp (C, oC) (.tail _ (.head _))
          · exact off₅ p hp (C + 1, oK') (.tail _ (.tail _ (.head _)))
          · exact off₅ p hp (D, LCg.lst ys) (.tail _ (.tail _ (.tail _ (.head _))))
      | false => exact close ys _ h₄ (by omega)
    · obtain rfl : i = its.size := Nat.le_antisymm hi (Nat.not_lt.mp hlt')
      refine W.done _ _ _ hst fun h₂ tk₂ hk₂ => ?_
      have keep₂ : ∀ b o, b ≠ I → h'.get? b = some o → h₂.get? b = some o := fun b o hb e => hk₂ b o (by simpa using hb) e
      refine ⟨m', hn'.at' fun o e => keep₂ C o (by omega) e, fun h₃ hs₃ => ?_⟩
      have keep₃ : ∀ b o, b ≠ I → b ≠ C → h'.get? b = some o → h₃.get? b = some o := fun b o hb hb' e => hs₃.extBut b o hb' (keep₂ b o hb e)
      refine fin D ys nx h₃ tk₂ hJ ⟨F'.ns.at' fun o e => keep₃ L o (by omega) (by omega) e, fun b o e => keep₃ b o (fun q => by rw [q, i0] at e; cases e) (fun q => by rw [q, c0] at e; cases e) (F'.keep b o e), F'.above⟩ (fun p hp => ?_) fun p hp => (off p hp).2.2.2
      rcases List.mem_cons.mp hp with rfl | hp
      · exact ⟨keep₃ _ _ (by show (D : Nat) ≠ I; omega) (by show (D : Nat) ≠ C; omega) (N' _ (.tail _ (.head _))).1, (N' _ (.tail _ (.head _))).2⟩
      · have o4 := off p hp
        exact ⟨keep₃ _ _ o4.1 o4.2.1 (N' p (.tail _ (.tail _ hp))).1, (N' p (.tail _ (.tail _ hp))).2⟩
  have lp := loop _ rfl
  exact codeAny_compStart_list lp (W.self 0 _ _ _ ⟨⟨_, (N3 _ (.tail _ (.tail _ (.tail _ (.head _))))).1, rfl, rfl⟩, S.list F3.keep (fun p hp => N3 p (.tail _ (.tail _ (.tail _ (.tail _ hp)))))⟩ lp)
end
end Mine

end
section
open PySem.Spec
set_option maxRecDepth 100000
end
local macro_rules | `(tactic| walk_at "call ref") => `(tactic| (k_here; (with_reducible show wpAny _ _ (call (Value.ref 520) [_, _] _) _ _ _); k_dflt (refine' Mine.Does.use (Mine.is_subtypeK_does ?hi ?hj ?hm ?hs) ?k1 ?k2 ?k3 ?k4 ?k5 ?k6 ?k7 ?k8 ?k9 ?_; (case k1 => k_asm); (case k2 => k_asm); (case k3 => k_asm); (case k4 => k_asm); (case k5 => k_asm); (case k6 => first | exact rfl | assumption); (case k7 => (intro g9 G9; refine' ⟨?a, ?b, ?c⟩; (case a => exact Mine.Wd.lift (by assumption) (Mine.lift_call (by assumption) (by assumption) G9 (by tb_start))); (case b => exact Mine.InstTo.lift (by assumption) (Mine.lift_call (by assumption) (by assumption) G9 (by tb_start))); (case c => exact Mine.InstTo.lift (by assumption) (Mine.lift_call (by assumption) (by assumption) G9 (by tb_start))))); (case hi => assumption); (case hj => assumption); (case hm => assumption); (case hs => assumption); (case k8 => k_room); (case k9 => k_units)); (intro _ _ h' tk' F' N' G' _ hR'; obtain ⟨e1', e2'⟩ := hR'; subst e1'; subst e2'); (try simp only [List.nil_append] at N'); (try dsimp only [PySem.W.CmpBack]); (try k_sweep)))
local macro_rules | `(tactic| walk_at "call ref") => `(tactic| (k_here; (with_reducible show wpAny _ _ (call (Value.ref 520) [_, _, _] []) _ _ _); k_dflt (refine' Mine.Does.use (Mine.is_subtype3_does ?hi ?hj ?hm ?hs) ?k1 ?k2 ?k3 ?k4 ?k5 ?k6 ?k7 ?k8 ?k9 ?_; (case k1 => k_asm); (case k2 => k_asm); (case k3 => k_asm); (case k4 => k_asm); (case k5 => k_asm); (case k6 => first | exact rfl | assumption); (case k7 => (intro g9 G9; refine' ⟨?a, ?b, ?c⟩; (case a => exact Mine.Wd.lift (by assumption) (Mine.lift_call (by assumption) (by assumption) G9 (by tb_start))); (case b => exact Mine.InstTo.lift (by assumption) (Mine.lift_call (by assumption) (by assumption) G9 (by tb_start))); (case c => exact Mine.InstTo.lift (by assumption) (Mine.lift_call (by assumption) (by assumption) G9 (by tb_start))))); (case hi => assumption); (case hj => assumption); (case hm => assumption); (case hs => assumption); (case k8 => k_room); (case k9 => k_units)); (intro _ _ h' tk' F' N' G' _ hR'; obtain ⟨e1', e2'⟩ := hR'; subst e1'; subst e2'); (try simp only [List.nil_append] at N'); (try dsimp only [PySem.W.CmpBack]); (try k_sweep)))
local macro_rules | `(tactic| walk_at "call ref") => `(tactic| (k_here; (with_reducible show wpAny _ _ (call (Value.ref 520) [_, _] []) _ _ _); k_dflt (refine' Mine.Does.use (Mine.is_subtype2_does ?hi ?hj ?hm ?hs) ?k1 ?k2 ?k3 ?k4 ?k5 ?k6 ?k7 ?k8 ?k9 ?_; (case k1 => k_asm); (case k2 => k_asm); (case k3 => k_asm); (case k4 => k_asm); (case k5 => k_asm); (case k6 => first | exact rfl | assumption); (case k7 => (intro g9 G9; refine' ⟨?a, ?b, ?c⟩; (case a => exact Mine.Wd.lift (by assumption) (Mine.lift_call (by assumption) (by assumption) G9 (by tb_start))); (case b => exact Mine.InstTo.lift (by assumption) (Mine.lift_call (by assumption) (by assumption) G9 (by tb_start))); (case c => exact Mine.InstTo.lift (by assumption) (Mine.lift_call (by assumption) (by assumption) G9 (by tb_start))))); (case hi => assumption); (case hj => assumption); (case hm => assumption); (case hs => assumption); (case k8 => k_room); (case k9 => k_units)); (intro _ _ h' tk' F' N' G' _ hR'; obtain ⟨e1', e2'⟩ := hR'; subst e1'; subst e2'); (try simp only [List.nil_append] at N'); (try dsimp only [PySem.W.CmpBack]); (try k_sweep)))
namespace Mine
set_option maxRecDepth 100000
set_option maxHeartbeats 8000000
variable {w : World} {p : Program} {loose : List Str} {mean : ExcName → Option Value} {mg mb : Str → Option Value}
theorem is_same_type_does {chs : List (List Nat)} {cs : List Addr} {i j : Nat} {x y : Addr} (hi : i < chs.length) (hj : j < chs.length) (hmem : ∀ i k, k ∈ chs.getD i [] → k < chs.length) (hs : ∀ i, i < chs.length → sub chs i i = true)
    (ha : ∀ i j, i < chs.length → j < chs.length → sub chs i j = true → sub chs j i = true → i = j) :
    Does w p loose mean mg mb 20 539 [.ref x, .ref y] [] (fun g => Wd (hAt g) chs cs ∧ InstTo (hAt g) x (cs.getD i 0) ∧ InstTo (hAt g) y (cs.getD j 0)) (fun r tl => tl = [] ∧ r = .bool (i == j)) := by
  intro dp un gd cn cs' a ccd cl outer A₀ base h₀ L m news s Q E B F X N T hk hW hd hu hret
  refine wpAny_call ?_
  (first | (k_dflt (refine' code_defG (binds := [(Str.ofString "a", .ref x), (Str.ofString "b", .ref y)]) ?k1 ?k2 ?k3 ?k4 ?k5 ?kA ?kF ?kK ?k6 ?k7 ?k8 ?k9 ?kB ?_ ?c2 ?c3 ?c4 ?c5; (case kA => exact rfl); (case kF => exact rfl); (case kK => first | exact rfl | assumption); (case k1 => k_asm); (case k2 => k_asm); (case k3 => k_asm); (case k4 => k_asm); (case k5 => k_asm); (case k6 => k_is); (case k7 => k_is); (case k8 => k_room); (case k9 => first | exact BindsTo.of_eq rfl | exact binds_K (by k_in) rfl (by k_is) rfl rfl rfl); (case c5 => decide); (case kB => exact locs rfl); (case c2 => exact rfl); (case c3 => exact rfl); (case c4 => exact rfl); k_whole)) | fail "enter")
  intro g L₁ h₁ FG F₁ N₁ B₁ X₁ T₁ G
  dsimp only [List.reverse, List.reverseAux] at F₁
  (try dsimp only)
  (try k_unmd)
  k_fold
  obtain ⟨hw, hx, hy⟩ := hW _ G
  have hx' := hx
  have hy' := hy
  obtain ⟨dx, tx, px1, qx1, px2, qx2, nx1, nx2, ex1, ex2, ex3⟩ := hx'
  obtain ⟨dy, ty, py1, qy1, py2, qy2, ny1, ny2, ey1, ey2, ey3⟩ := hy'
  obtain ⟨di, ai1⟩ := wd_obj hw hi
  obtain ⟨dj, aj1⟩ := wd_obj hw hj
  have hij := wd_eq hw hi hj
  k_steps
  all_goals (refine hret _ [] _ _ (by assumption) (cb_drop (by assumption) (by kcf_all)) (gsub_trans G (Fr.keep (by assumption))) (by simp) ?_; refine ⟨rfl, congrArg Value.bool ?_⟩; by_cases e : i = j)
  · simp [e]
  · simp_all
  · subst e; rw [hs i hi]; simp
  · rw [beq_eq_false_iff_ne.mpr e]
    cases h : sub chs j i with
    | false => rfl
    | true => exact absurd (ha i j hi hj (by assumption) h) e
  · subst e; rw [hs i hi]; simp
  · simp_all
end Mine

section
open PySem.Spec
namespace Mine
set_option maxRecDepth 100000
set_option maxHeartbeats 4000000
/-! ## type variables -/
def TvAt (At : Addr → Obj → Prop) (x : Addr) (nm : Str) (vals : List Addr) (ub : Addr) : Prop :=
  ∃ d i di vl, ∃ h1 k1 h2 k2 h3 k3 h4 k4 h5 k5 h6 k6 h7 k7, ∃ t1 t2 t3 t4 : Tok, ∃ n1 n2 n3, ∃ r : Int,
    At x (instObj 204 d) ∧
    At d (dictOf [⟨h1, .str (Str.ofString "name") k1, .str nm t1⟩, ⟨h2, .str (Str.ofString "id") k2, .ref i⟩, ⟨h3, .str (Str.ofString "upper_bound") k3, .ref ub⟩, ⟨h4, .str (Str.ofString "values") k4, .ref vl⟩, ⟨h5, .str (Str.ofString "variance") k5, .int 0 t2⟩] n1) ∧
    At i (instObj 161 di) ∧ At di (dictOf [⟨h6, .str (Str.ofString "raw_id") k6, .int r t3⟩, ⟨h7, .str (Str.ofString "meta_level") k7, .int 0 t4⟩] n2) ∧ At vl (listOf (vals.map Value.ref).toArray n3)
theorem TvAt.lift {At At' : Addr → Obj → Prop} {x : Addr} {nm : Str} {vals : List Addr} {ub : Addr} (h : TvAt At x nm vals ub) (k : ∀ a o, At a o → At' a o) : TvAt At' x nm vals ub := by
  obtain ⟨d, i, di, vl, h1, k1, h2, k2, h3, k3, h4, k4, h5, k5, h6, k6, h7, k7, t1, t2, t3, t4, n1, n2, n3, r, a1, a2, a3, a4, a5⟩ := h
  exact ⟨d, i, di, vl, h1, k1, h2, k2, h3, k3, h4, k4, h5, k5, h6, k6, h7, k7, t1, t2, t3, t4, n1, n2, n3, r, k _ _ a1, k _ _ a2, k _ _ a3, k _ _ a4, k _ _ a5⟩
theorem TvAt.obj {At : Addr → Obj → Prop} {x : Addr} {nm : Str} {vals : List Addr} {ub : Addr} (h : TvAt At x nm vals ub) : ∃ d od, At x (instObj 204 d) ∧ At d od := by
  obtain ⟨d, i, di, vl, h1, k1, h2, k2, h3, k3, h4, k4, h5, k5, h6, k6, h7, k7, t1, t2, t3, t4, n1, n2, n3, r, a1, a2, _⟩ := h
  exact ⟨d, _, a1, a2⟩
theorem InstTo.obj {At : Addr → Obj → Prop} {x c : Addr} (h : InstTo At x c) : ∃ d od, At x (instObj 312 d) ∧ At d od := by
  obtain ⟨d, t, h1, k1, h2, k2, n1, n2, a, b, c⟩ := h
  exact ⟨d, _, a, b⟩

theorem gsub_comp {h h' g : Heap} {adr : List Addr} (G : GSub h h' adr) (G' : GSub h' g adr) : GSub h g adr := fun b o e n => G' b o (G b o e n) n

section
variable {w : World} {p : Program} {loose : List Str} {mean : ExcName → Option Value} {mg mb : Str → Option Value}
/-- == of two instances whose __eq__ both decline -/
theorem eq_NI {k : Nat} {f f' x y C D dx dy : Addr} {odx ody : Obj} {W : Heap → Prop} (D1 : Does w p loose mean mg mb k f [.ref x, .ref y] [] W (fun r tl => tl = [] ∧ r = .notImplemented))
    (D2 : Does w p loose mean mg mb k f' [.ref y, .ref x] [] W (fun r tl => tl = [] ∧ r = .notImplemented))
    {dp un : Nat} {gd : Option (List Code)} {cn : Str} {cs : Scope} {a : Addr} {ccd : Value} {cl : List (Str × Addr)} {outer : List Env} {A₀ : Around} {base h₀ : Heap} {L : Addr}
    {m : Str → Option Value} {news : List (Addr × Obj)} {s : Shared} {Q E : Value → Shared → Prop}
    (B : Below A₀ base outer h₀) (F : Fr h₀ L s.heap m) (X : (hd.heap_39 w.params).In h₀) (N : News h₀ L s.heap news) (T : Top p loose mean mg mb h₀) (hk : cs.kind = .function)
    (hW : ∀ g, GSub s.heap g (news.map (·.1)) → W g) (hdp : dp + k < recursionLimit) (hu : un + 20 * k < cLine)
    (hx : h₀.get? x = some (instObj C dx)) (hdx : h₀.get? dx = some odx) (hy : h₀.get? y = some (instObj D dy)) (hdy : h₀.get? dy = some ody)
    (hn : notFirst (hd.heap_39 w.params) C (.ref D) = true)
    (hs : findIn (hd.heap_39 w.params) (.ref C) "__eq__" = some (some (.ref f))) (hf : isFn (hd.heap_39 w.params) (.ref f) = true)
    (hs' : findIn (hd.heap_39 w.params) (.ref D) "__eq__" = some (some (.ref f'))) (hf' : isFn (hd.heap_39 w.params) (.ref f') = true) (hxy : x ≠ y)
    (hret : ∀ h' tk', Fr h₀ L h' m → News h₀ L h' news → GSub s.heap h' (news.map (·.1)) → Q (.bool false) { s with heap := h', toks := tk' }) :
    wpAny (model PG w) (ktrTop dp un gd cn cs L a ccd cl outer) (compareOp .Eq (.ref x) (.ref y)) Q E s := by
  refine cmp_ofEq ?_
  have Xh := X.keeps F.keep
  have I : InstAt s.heap x ⟨.ref C, some dx, .plain, #[]⟩ C (some odx) := ⟨F.keep _ _ hx, rfl, rfl, F.keep _ _ hdx⟩
  have J : InstAt s.heap y ⟨.ref D, some dy, .plain, #[]⟩ D (some ody) := ⟨F.keep _ _ hy, rfl, rfl, F.keep _ _ hdy⟩
  have fin : ∀ h' tk', Fr h₀ L h' m → News h₀ L h' news → GSub s.heap h' (news.map (·.1)) → wpAny (model PG w) (ktrTop dp un gd cn cs L a ccd cl outer) (isSame (.ref x) (.ref y)) (fun b s' => Q (.bool b) s') E { s with heap := h', toks := tk' } := fun h' tk' F' N' G' =>
    wpAny_isSame_ref_other hxy (F'.keep _ _ hx) (F'.keep _ _ hy) (fun e => by cases e) (hret h' tk' F' N' G')
  have rest : wpAny (model PG w) (ktrTop dp un gd cn cs L a ccd cl outer) (do
      if let some v ← tryCompare (.ref x) "__eq__" (.ref y) then return v
      if let some v ← tryCompare (.ref y) "__eq__" (.ref x) then return v
      rule "compare.eq-identity"
      return .bool (← isSame (.ref x) (.ref y))) Q E s := by
    refine wpAny_bind ?_
    unfold tryCompare
    refine wpAny_bind (ifBound_K Xh I hs hf (D1.use B F X N T hk hW hdp hu ?_))
    rintro _ _ h₁ tk₁ F₁ N₁ G₁ - ⟨rfl, rfl⟩
    refine wpAny_pure (wpAny_bind ?_)
    have J₁ : InstAt h₁ y ⟨.ref D, some dy, .plain, #[]⟩ D (some ody) := ⟨F₁.keep _ _ hy, rfl, rfl, F₁.keep _ _ hdy⟩
    refine wpAny_bind (ifBound_K (s := { s with heap := h₁, toks := tk₁ }) (X.keeps F₁.keep) J₁ hs' hf' (D2.use B F₁ X N₁ T hk (fun g G => hW g (gsub_comp G₁ G)) hdp hu ?_))
    rintro _ _ h₂ tk₂ F₂ N₂ G₂ - ⟨rfl, rfl⟩
    refine wpAny_pure (wpAny_bind (wpAny_rule (wpAny_bind (wpAny_mono (fin h₂ tk₂ F₂ N₂ (gsub_comp G₁ G₂)) (fun b s' q => wpAny_pure q) fun _ _ e => e))))
  unfold richCompare
  simp only [oneThing_ref]
  refine wpAny_holding (wpAny_bind (wpAny_cRoomFor (by show un < cLine; omega) ?_))
  refine wpAny_bind (I.type.here (wpAny_bind (J.type.here ?_)))
  split
  · rename_i q
    have e : subIn (hd.heap_39 w.params) (.ref D) (.ref C) = some false := by
      rcases Bool.or_eq_true_iff.mp hn with e | e
      · rw [beq_iff_eq.mp e] at q; simp at q
      · exact beq_iff_eq.mp e
    refine wpAny_bind ((looks_subIn Xh e).here ?_)
    simp only [Bool.false_eq_true, if_false]
    exact rest
  · refine wpAny_bind (wpAny_pure ?_)
    simp only [Bool.false_eq_true, if_false]
    exact rest
end
end Mine
namespace Mine
section
variable {prog : Program} {w : World} {A : Around} {E : Value → Shared → Prop} {s : Shared}
theorem truthy_b {l : Addr} {its : Array Value} (b : Bool) {Q : Bool → Shared → Prop} (hl : s.heap.IsList l its) (hb : its.isEmpty = b) (hfit : (its.size : Int) < 2 ^ 63) (h : Q (!b) { s with toks := s.toks + 1 + 1 }) : wpAny (model prog w) A (truthy (.ref l)) Q E s :=
  wpAny_truthy_list hl hfit (by rw [hb]; exact h)
theorem fit63 {n : Nat} (h : n ≤ 1000) : (n : Int) < 2 ^ 63 := by omega
end
end Mine
end
local macro_rules | `(tactic| walk_at "truthy ref") => `(tactic| (k_here; k_dflt (refine' wpAny_truthy_list ?h ?f ?_; (case h => first | (refine' News.isList ?g ?i; (case g => k_asm); (case i => k_mem)) | (refine' Mine.isList_base ?g ?i; (case g => k_asm); (case i => tb_rel))); (case f => (refine Mine.fit63 ?_; simp only [List.size_toArray, List.length_map]; omega)); k_whole)))
local macro_rules | `(tactic| walk_at "truthy ref") => `(tactic| (k_here; k_dflt (first | (refine' Mine.truthy_b false ?h ?e ?f ?_; (case h => first | (refine' News.isList ?g ?i; (case g => k_asm); (case i => k_mem)) | (refine' Mine.isList_base ?g ?i; (case g => k_asm); (case i => tb_rel))); (case e => exact rfl); (case f => exact Mine.fit63 (Nat.le_of_ble_eq_true rfl)); k_whole) | (refine' Mine.truthy_b true ?h ?e ?f ?_; (case h => first | (refine' News.isList ?g ?i; (case g => k_asm); (case i => k_mem)) | (refine' Mine.isList_base ?g ?i; (case g => k_asm); (case i => tb_rel))); (case e => exact rfl); (case f => exact Mine.fit63 (Nat.le_of_ble_eq_true rfl)); k_whole))))
section
open PySem.Spec
namespace Mine
section
variable {prog : Program} {w : World} {A : Around} {E : Value → Shared → Prop} {s : Shared}
theorem item_at {value slice : PySem.Expr} {l : Addr} {its : Array Value} {k : Int} {u : Tok} {v : Value} {Q : Value → Shared → Prop} (hl : s.heap.IsList l its) (h0 : 0 ≤ k) (hhi : k < 2 ^ 63) (hx : its[k.toNat]? = some v) (h : Q v s)
    (hs : subscripted slice false (.ref l) (.int k u) = operate [.ref l, .int k u] (getItem (.ref l) (.int k u)) := by with_unfolding_all rfl) : wpAny (model prog w) A (subscriptTail value slice (.ref l) (.int k u)) Q E s :=
  tail_any hl.typeIs slot_list_getitem.lookup (wpAny_getItem_list hl h0 hhi hx h) hs
end
end Mine
namespace Mine
section
variable {prog : Program} {w : World} {A : Around} {E : Value → Shared → Prop} {s : Shared}
theorem len_at {l : Addr} {its : Array Value} (n : Nat) {Q : Value → Shared → Prop} (hl : s.heap.IsList l its) (hn : its.size = n) (hfit : n ≤ 1000) (h : Q (.int n (s.toks + 1)) { s with toks := s.toks + 1 + 1 }) : wpAny (model prog w) A (call (.builtin "len") [.ref l]) Q E s :=
  len_list hl (by rw [hn]; exact fit63 hfit) (by rw [hn]; exact h)
end
end Mine
end
local macro_rules | `(tactic| walk_at "call builtin:len") => `(tactic| (k_here; (with_reducible show wpAny _ _ (call (Value.builtin "len") [Value.ref _] _) _ _ _); k_dflt (first | (refine' Mine.len_at 0 ?h ?e ?f ?_; (case h => (refine' Mine.isList_base ?g ?i; (case g => k_asm); (case i => tb_rel))); (case e => exact rfl); (case f => exact Nat.le_of_ble_eq_true rfl); k_whole; (try simp only [Int.ofNat_zero, Int.natCast_zero])) | (refine' Mine.len_at 1 ?h ?e ?f ?_; (case h => (refine' Mine.isList_base ?g ?i; (case g => k_asm); (case i => tb_rel))); (case e => exact rfl); (case f => exact Nat.le_of_ble_eq_true rfl); k_whole; (try simp only [Int.natCast_one])) | (refine' Mine.len_at _ ?h ?e ?f ?_; (case h => (refine' Mine.isList_base ?g ?i; (case g => k_asm); (case i => tb_rel))); (case e => (simp only [List.size_toArray, List.length_map]; exact rfl)); (case f => omega); k_whole))))
local macro_rules | `(tactic| walk_at "subscriptTail") => `(tactic| (k_here; (with_reducible show wpAny _ _ (subscriptTail _ _ (Value.ref _) (Value.int _ _)) _ _ _); k_dflt (refine' Mine.item_at ?k1 ?k2 ?k3 ?k4 ?_ ?k6; (case k1 => first | (refine' News.isList ?g ?i; (case g => k_asm); (case i => k_mem)) | (refine' Mine.isList_base ?g ?i; (case g => k_asm); (case i => tb_rel))); (case k2 => decide); (case k3 => decide); (case k4 => exact rfl); (case k6 => with_unfolding_all rfl); k_whole)))
local macro_rules | `(tactic| walk_at "subscriptTail Name Constant ref int") => `(tactic| (k_here; (with_reducible show wpAny _ _ (subscriptTail _ _ (Value.ref _) (Value.int _ _)) _ _ _); k_dflt (refine' Mine.item_at ?k1 ?k2 ?k3 ?k4 ?_ ?k6; (case k1 => first | (refine' News.isList ?g ?i; (case g => k_asm); (case i => k_mem)) | (refine' Mine.isList_base ?g ?i; (case g => k_asm); (case i => tb_rel))); (case k2 => decide); (case k3 => decide); (case k4 => exact rfl); (case k6 => with_unfolding_all rfl); k_whole)))
section
open PySem.Spec
namespace Mine
set_option maxRecDepth 100000
set_option maxHeartbeats 4000000
section
variable {prog : Program} {w : World} {A : Around} {E : Value → Shared → Prop} {s : Shared} {h₀ : Heap} {env : Env}
/-- a loop over a list of the base whose target is a cell -/
theorem For_cell {iter : Expr} {x : Str} {px pos : Pos} {body : List Stmt} {Q : Flow → Shared → Prop} {K : Addr} (J : Nat → List (Addr × Obj) → Prop)
    (hkind : env.scope.kind = .function) (hxk : env.kindOf x = some .cell) (hlk : env.cells.lookup x = some K)
    (h : wpAny (model prog w) A (eval iter env) (fun xv s₁ => ∃ l vs m news oK v₀, xv = .ref l ∧ A.handled = none ∧ h₀.IsList l (vs : List Value).toArray ∧ Fr h₀ env.locals s₁.heap m ∧ oK.data = .cell v₀ ∧ News h₀ env.locals s₁.heap ((K, oK) :: news) ∧ (∀ p ∈ news, p.1 ≠ K) ∧ J 0 news ∧
      (∀ i v nx I oI oK h tk, vs[i]? = some v → oK.data = .cell (some v) → J i nx → Fr h₀ env.locals h m → News h₀ env.locals h ([(I, oI), (K, oK)] ++ nx) → (∀ p ∈ nx, ∀ q ∈ [(I, oI), (K, oK)], p.1 ≠ q.1) → (@Ne Nat I K) →
        wpAny (model prog w) A (execs body env) (fun f s' => (f = .next ∨ f = .cont) ∧ KEnd h₀ env.locals m { s₁ with heap := h, toks := tk } [(I, oI), (K, oK)] (fun _ => True) (J (i + 1)) s') E { s₁ with heap := h, toks := tk }) ∧
      (∀ nx oK v h tk, J vs.length nx → oK.data = .cell v → Fr h₀ env.locals h m → News h₀ env.locals h ((K, oK) :: nx) → (∀ p ∈ nx, p.1 ≠ K) → Q .next { s₁ with heap := h, toks := tk })) E s)
    (hs : ∀ x, foldedSetIterable iter env x = pure x := by intro _; rfl)
    (hE : PassesOwn (model prog w) A env E := by passes_own) :
    wpAny (model prog w) A (exec (.For (.Name x px) iter body [] pos) env) Q E s := by
  refine wpAny_For (wpAny_mono h (fun xv s₁ h₁ => ?_) fun _ _ e => e) hs
  obtain ⟨l, vs, m, news, oK, v₀, rfl, hh, hl, F, hoK, N, off, hj, turn, fin⟩ := h₁
  have hls : s₁.heap.IsList l vs.toArray := hl.at fun o e => F.keep l o e
  obtain ⟨ol, hol, _⟩ := id hl
  have hlt : @LT.lt Nat _ l s₁.heap.objs.size := Nat.lt_of_lt_of_le (Heap.lt_size hol) (Nat.le_trans F.above (Nat.le_of_lt F.ns.lt))
  refine wpAny_pyIter_list hls ?_
  have W := Walks.list (prog := prog) (w := w) (A := A) hh s₁.heap.objs.size l (Nat.ne_of_lt hlt) vs.toArray
  generalize hI : s₁.heap.objs.size = I at W ⊢
  generalize hH1 : s₁.heap.push { cls := .type "list_iterator", data := .fields #[.ref l, .int 0 0] } = H1
  have F1 : Fr h₀ env.locals H1 m := by rw [← hH1]; exact F.push _
  have N1 : News h₀ env.locals H1 ((I, { cls := .type "list_iterator", data := .fields #[.ref l, .int 0 0] }) :: (K, oK) :: news) := by rw [← hH1, ← hI]; exact N.push F _
  have i0 : h₀.get? I = none := hI ▸ next_is_new F
  have hKL := (N _ (.head _)).2
  have hKI : @LT.lt Nat _ K I := hI ▸ Heap.lt_size (N _ (.head _)).1
  have hLI : @LT.lt Nat _ env.locals I := hI ▸ F.ns.lt
  have hlI : @LT.lt Nat _ l I := hI ▸ hlt
  have lo : ∀ p ∈ news, @LT.lt Nat _ p.1 I := fun p hp => hI ▸ Heap.lt_size (N p (.tail _ hp)).1
  refine codeAny_forLoop (n := vs.length + 1)
    (fun k s' => ∃ h' tk nx oK ov i, s' = { s₁ with heap := h', toks := tk } ∧ (h'.IsListIter I l i ∧ h'.IsList l vs.toArray) ∧ Fr h₀ env.locals h' m ∧ oK.data = .cell ov ∧ News h₀ env.locals h' ((K, oK) :: nx) ∧ (∀ p ∈ nx, p.1 ≠ I ∧ p.1 ≠ K) ∧ J i nx ∧ i ≤ vs.length ∧ k = vs.length + 1 - i) ?_
    ⟨H1, _, news, oK, v₀, 0, rfl, ⟨⟨_, (N1 _ (.head _)).1, rfl, rfl⟩, hl.at fun o e => F1.keep l o e⟩, F1, hoK, (fun p hp => N1 p (.tail _ hp)), (fun p hp => ⟨Nat.ne_of_lt (lo p hp), off p hp⟩), hj, Nat.zero_le _, rfl⟩
  rintro k s' ⟨h', tk, nx, oK, ov, i, rfl, hst, F', hoK, N', off', hJ, hi, rfl⟩
  by_cases hlt' : i < vs.length
  · refine W.item i _ _ _ (by simpa using hlt') hst fun v h₂ tk₂ hPv hst₂ hk₂ => ?_
    have keep₂ : ∀ b o, b ≠ I → h'.get? b = some o → h₂.get? b = some o := fun b o hb e => hk₂ b o (by simpa using hb) e
    have hK₂ : h₂.get? K = some oK := keep₂ _ _ (Nat.ne_of_lt hKI) (N' _ (.head _)).1
    refine wpAny_assign_Name (wpAny_storeName_cell hkind hxk hlk ⟨_, hK₂, hoK⟩ fun h₃ hv₃ hs₃ => ?_)
    obtain ⟨oK', hK₃, hoK'⟩ := hv₃
    have keep₃ : ∀ b o, b ≠ I → b ≠ K → h'.get? b = some o → h₃.get? b = some o := fun b o hb hb' e => hs₃.extBut b o hb' (keep₂ b o hb e)
    obtain ⟨⟨oI, eI, cI, dI⟩, l₂⟩ := hst₂
    have eI₃ : h₃.get? I = some oI := hs₃.extBut _ _ (Nat.ne_of_gt hKI) eI
    have F₃ : Fr h₀ env.locals h₃ m := ⟨F'.ns.at' fun o e => keep₃ _ o (Nat.ne_of_lt hLI) (fun q => hKL.1 q.symm) e, fun b o e => keep₃ b o (fun q => by rw [q, i0] at e; cases e) (fun q => by rw [q, hKL.2] at e; cases e) (F'.keep b o e), F'.above⟩
    have N₃ : News h₀ env.locals h₃ ([(I, oI), (K, oK')] ++ nx) := fun p hp => by
      simp only [List.cons_append, List.nil_append, List.mem_cons] at hp
      rcases hp with rfl | rfl | hp
      · exact ⟨eI₃, (Nat.ne_of_gt hLI), i0⟩
      · exact ⟨hK₃, hKL⟩
      · have o4 := off' p hp
        exact ⟨keep₃ _ _ o4.1 o4.2 (N' p (.tail _ hp)).1, (N' p (.tail _ hp)).2⟩
    have off₃ : ∀ p ∈ nx, ∀ q ∈ [(I, oI), (K, oK')], p.1 ≠ q.1 := fun p hp q hq => by
      have o4 := off' p hp
      simp only [List.mem_cons, List.not_mem_nil, or_false] at hq
      rcases hq with rfl | rfl
      · exact o4.1
      · exact o4.2
    refine wpAny_mono (wpAny_passesOwn hE (turn i v nx I oI oK' h₃ tk₂ (by simpa using hPv) hoK' hJ F₃ N₃ off₃ (Nat.ne_of_gt hKI))) (fun f s₄ h₄ => ?_) fun _ _ e => e
    obtain ⟨hf, h₄', tk₄, nx₄, rfl, F₄, N₄, off₄, _, J₄⟩ := h₄
    have fin : ∃ mm, mm < vs.length + 1 - i ∧ ∃ h' tk nx oK ov i, ({ s₁ with heap := h₄', toks := tk₄ } : Shared) = { s₁ with heap := h', toks := tk } ∧ (h'.IsListIter I l i ∧ h'.IsList l vs.toArray) ∧ Fr h₀ env.locals h' m ∧ oK.data = .cell ov ∧ News h₀ env.locals h' ((K, oK) :: nx) ∧ (∀ p ∈ nx, p.1 ≠ I ∧ p.1 ≠ K) ∧ J i nx ∧ i ≤ vs.length ∧ mm = vs.length + 1 - i :=
      ⟨vs.length + 1 - (i + 1), by omega, h₄', tk₄, nx₄, oK', some v, i + 1, rfl, ⟨⟨oI, (N₄ (I, oI) (.head _)).1, cI, dI⟩, hl.at fun o e => F₄.keep l o e⟩, F₄, hoK', (fun p hp => N₄ p (.tail _ hp)), (fun p hp => ⟨off₄ p hp _ (.head _), off₄ p hp _ (.tail _ (.head _))⟩), J₄, hlt', rfl⟩
    rcases hf with rfl | rfl
    · exact fin
    · exact fin
  · obtain rfl : i = vs.length := by omega
    refine W.done _ _ _ (by simpa using hst) fun h₂ tk₂ hk₂ => wpAny_execs_nil ?_
    have keep₂ : ∀ b o, b ≠ I → h'.get? b = some o → h₂.get? b = some o := fun b o hb e => hk₂ b o (by simpa using hb) e
    exact fin nx oK ov h₂ tk₂ hJ hoK ⟨F'.ns.at' fun o e => keep₂ _ o (Nat.ne_of_lt hLI) e, fun b o e => keep₂ b o (fun q => by rw [q, i0] at e; cases e) (F'.keep b o e), F'.above⟩
      (fun p hp => by
        rcases List.mem_cons.mp hp with rfl | hp
        · exact ⟨keep₂ _ _ (Nat.ne_of_lt hKI) (N' _ (.head _)).1, (N' _ (.head _)).2⟩
        · exact ⟨keep₂ _ _ (off' p hp).1 (N' p (.tail _ hp)).1, (N' p (.tail _ hp)).2⟩) fun p hp => (off' p hp).2
end
end Mine

end
section
open PySem.Spec
namespace Mine
set_option maxRecDepth 100000
set_option maxHeartbeats 4000000
section
variable {prog : Program} {w : World} {A : Around} {E : Value → Shared → Prop} {s : Shared} {env : Env} {h₀ : Heap} {x : Str} {body : List Stmt} {Q : Flow → Shared → Prop}
/-- a loop over a range, by what holds between the turns -/
theorem loopR {r : Addr} {a b : Int} {t u v : Tok} {n : Nat} {m₀ : Str → Option Value} {news : List (Addr × Obj)} (J : Nat → (Str → Option Value) → List (Addr × Obj) → Prop)
    (hh : A.handled = none) (hr : IsRange s.heap r a b 1 t u v) (h1 : Builtin.Range.small a b 1 = true) (h2 : Builtin.Range.rangeSize a b 1 = ((n : Nat) : Int)) (F : Fr h₀ env.locals s.heap m₀) (N : News h₀ env.locals s.heap news) (hj : J 0 m₀ news)
    (turn : ∀ i v m₁ nx h tk own, i < n → (∃ t, v = .int (a + (i : Int)) t) → TbOff own nx → J i m₁ nx → Fr h₀ env.locals h (fun y => if y = x then some v else m₁ y) → News h₀ env.locals h (nx ++ own) → (∀ p ∈ own, s.heap.objs.size ≤ p.1) →
      wpAny (model prog w) A (execs body env) (TbPost h₀ env.locals (J (i + 1)) own { s with heap := h, toks := tk } Q) E { s with heap := h, toks := tk })
    (done : ∀ m₁ nx h tk, J n m₁ nx → Fr h₀ env.locals h m₁ → News h₀ env.locals h nx → Q .next { s with heap := h, toks := tk }) :
    wpAny (model prog w) A (pyIter (.ref r)) (fun it s₂ => LoopAtV prog w A h₀ env x body Q E it s₂) E s := by
  have up : ∀ z o, s.heap.get? z = some o → (s.heap.push { cls := .type "range_iterator", data := .fields #[rawInt a, rawInt (Builtin.Range.rangeSize a b 1), rawInt 1] }).get? z = some o := fun z o e => Heap.get?_push_of_some _ e
  refine wpAny_pyIter_range hr h1 ?_
  refine ⟨s.heap.objs.size, [s.heap.objs.size], [s.heap.objs.size], n, fun i v => ∃ t, v = .int (a + (i : Int)) t, fun i h => IsRangeIter h s.heap.objs.size (a + (i : Nat) * 1) ((n : Int) - (i : Nat)) 1, m₀, news, J, rfl, ?_, ?_, ?_, ?_, ?_, F.push _, (fun p hp => ⟨up _ _ (N p hp).1, (N p hp).2⟩), hj, ?_, ?_⟩
  · have W := Walks.range (prog := prog) (w := w) hh s.heap.objs.size a 1 n
    simpa using W
  · intro hm
    exact absurd F.ns.lt ((List.mem_singleton.mp hm) ▸ Nat.lt_irrefl _)
  · intro b hb
    rw [List.mem_singleton.mp hb]
    exact next_is_new F
  · intro p hp hI
    exact absurd (Heap.lt_size (N p hp).1) ((List.mem_singleton.mp hI) ▸ Nat.lt_irrefl _)
  · show IsRangeIter _ _ _ _ _
    rw [show a + ((0 : Nat) : Int) * 1 = a by simp, show ((n : Nat) : Int) - ((0 : Nat) : Int) = n by simp, ← h2]
    exact Heap.get?_push_size _ rfl
  · rintro i v m₁ nx s₁ own ⟨h, tk, rfl⟩ hin hP hJ hoff hown _ hmem hst F₁ N₁
    have hI := hmem _ (.head _) (next_is_new F) _ hst
    have sep : TbOff own nx := by
      intro p hp q hq e
      have hpa := List.mem_singleton.mp (hown p hp)
      exact hoff q hq (List.mem_singleton.mpr (by rw [← e, hpa]))
    have N₂ : News h₀ env.locals h (nx ++ own) := fun p hp => N₁ p ((List.mem_append.mp hp).elim (fun h => List.mem_append.mpr (.inr h)) fun h => List.mem_append.mpr (.inl h))
    refine wpAny_mono (turn i v m₁ nx h tk own hin hP sep hJ F₁ N₂ (fun p hp => Nat.le_of_eq (List.mem_singleton.mp (hown p hp)).symm)) (fun f s₂ p => ?_) fun _ _ e => e
    have fin : TbEnd h₀ env.locals (J (i + 1)) own { s with heap := h, toks := tk } s₂ → LoopStepU h₀ env.locals [s.heap.objs.size] own (J (i + 1)) { s with heap := h, toks := tk } .next s₂ := by
      rintro ⟨h', tk, m', news', nx', e, F', N', hn, ho, ha, hm⟩
      exact ⟨rfl, h', tk, m', nx', e, F', fun p hp => N' p ((List.mem_append.mp hp).elim (ho p) (hn p)), fun p hp hq => ha _ hI p hp (List.mem_singleton.mp hq).symm, hm⟩
    cases f with
    | ret v => exact .ret p
    | brk => exact .brk p
    | next => exact .next (fin p)
    | cont => exact .cont (fin p)
  · rintro h' tk m' news' F' N' _ hJ
    exact done m' news' h' tk hJ F' N'
end
end Mine

end
section
open PySem.Spec
namespace Mine
set_option maxRecDepth 100000
set_option maxHeartbeats 4000000
section
variable {prog : Program} {w : World} {A : Around} {E : Value → Shared → Prop} {s : Shared} {h₀ : Heap} {L : Addr} {m : Str → Option Value} {env : Env} {news : List (Addr × Obj)}
theorem loop_T {elt target iter : Expr} {ifs : List Expr} {scope : Scope} {pos : Pos} {it acc : Value} {env : Env} {R : Result → Shared → Prop} (I : Nat → Shared → Prop)
    (turn : ∀ n s, I n s → wpAny (model prog w) A (pyNext it) (fun r s₁ => match r with
      | none => R (.ok .next) s₁
      | some v => wpAny (model prog w) A (letOwnedTupleGo target it v) (fun _ s₀ => wpAny (model prog w) A (assign target env v) (fun _ s₂ =>
          wpAny (model prog w) A (forIn ifs true fun c r => if r = true then do let ok ← isTrue c env (eval c env); pure (ForInStep.yield ok) else pure (ForInStep.yield r)) (fun ok s₃ =>
            if ok = true then wpAny (model prog w) A (eval elt env) (fun x s₄ =>
              wpAny (model prog w) A (call (.builtin "list.append") [acc, x]) (fun _ s₅ => ∃ m, m < n ∧ I m s₅) (notedBy (model prog w) A env fun e s' => R (.error e) s') s₄) (notedBy (model prog w) A env fun e s' => R (.error e) s') s₃
            else ∃ m, m < n ∧ I m s₃) (notedBy (model prog w) A env fun e s' => R (.error e) s') s₂) (notedBy (model prog w) A env fun e s' => R (.error e) s') s₀) (notedBy (model prog w) A env fun e s' => R (.error e) s') s₁) (notedBy (model prog w) A env fun e s' => R (.error e) s') s)
    (n : Nat) (h : I n s) : codeAny (model prog w) A (.compLoop (.ListComp elt [⟨target, iter, ifs, 0⟩] scope pos) 0 it acc env) R s := by
  refine codeAny_loop rfl I (fun n s hI => ?_) n h
  show wpAny _ A ((compTurn (.ListComp elt [⟨target, iter, ifs, 0⟩] scope pos) 0 it acc env).onRaise (fun x => do noteFrame x env; theTreesLotGoes x)) _ _ s
  refine wpAny_noted ?_
  rw [compTurn_list]
  refine wpAny_bind (wpAny_standAt (wpAny_bind (wpAny_mono (turn n s hI) (fun r s₁ h₁ => ?_) fun _ _ h' => h')))
  cases r with
  | none => exact wpAny_pure h₁
  | some v =>
    refine wpAny_bind (wpAny_mono h₁ (fun _ s₀ h₀' => ?_) fun _ _ h' => h')
    refine wpAny_bind (wpAny_mono h₀' (fun _ s₂ h₂ => wpAny_bind (wpAny_mono h₂ (fun ok s₃ h₃ => ?_) fun _ _ h' => h')) fun _ _ h' => h')
    cases ok with
    | false => exact wpAny_pure ⟨rfl, h₃⟩
    | true =>
      exact wpAny_bind (wpAny_bind (wpAny_mono h₃ (fun x s₄ h₄ => wpAny_bind (wpAny_mono h₄ (fun _ s₅ h₅ => wpAny_pure (wpAny_pure ⟨rfl, h₅⟩)) fun _ _ h' => h')) fun _ _ h' => h'))
/-- a turn that leaves nothing behind -/
def PureT (h₀ : Heap) (L : Addr) (m : Str → Option Value) (s₁ : Shared) (all : List (Addr × Obj)) (y v : Value) (s₂ : Shared) : Prop :=
  v = y ∧ ∃ h' tk, s₂ = { s₁ with heap := h', toks := tk } ∧ Fr h₀ L h' m ∧ News h₀ L h' all
/-- a comprehension over pairs of the ledger -/
theorem comp_T {elt iter : Expr} {ifs : List Expr} {a b : Str} {pa pb tp : Pos} {kk : Nat} {scope : Scope} {cl : List (Str × Addr)} {pos : Pos} {Q : Value → Shared → Prop} (t : Nat → Bool) (f va vb : Nat → Value)
    (hclos : closureFor scope env = pure cl) (hcell : ∀ y ∈ scope.names, y.2 ≠ .cell) (hkind : scope.kind = .function)
    (hnames : ∀ y ∈ scope.names, y.2 = .local → scope.names.lookup y.1 = some .local) (hxa : scope.names.lookup a = some .local) (hxb : scope.names.lookup b = some .local) (hab : ¬ a = b)
    (hmain : wpAny (model prog w) A (eval iter env) (fun xv s₁ => ∃ ax its news, xv = .ref ax ∧ A.handled = none ∧ Fr h₀ L s₁.heap m ∧ News h₀ L s₁.heap news ∧ LCg.SrcAt h₀ ax its news ∧ its.size ≤ sizeLine ∧
      (∀ i v, its[i]? = some v → ∃ T, v = .ref T ∧ (T, ({ cls := .type "tuple", data := .seq #[va i, vb i] } : Obj)) ∈ news) ∧
      (∀ i I oI C oC D m₂ ys h tk (E' : Value → Shared → Prop), i < its.size → LCg.NsObj oC m₂ → m₂ a = some (va i) → m₂ b = some (vb i) → Fr h₀ L h m → News h₀ L h ((I, oI) :: (C, oC) :: (D, LCg.lst ys) :: news) →
        wpAny (model prog w) A (forIn ifs true fun c r => if r = true then do let ok ← isTrue c (compEnvC scope cl C env) (eval c (compEnvC scope cl C env)); pure (ForInStep.yield ok) else pure (ForInStep.yield r))
          (fun ok s' => if ok = true then wpAny (model prog w) A (eval elt (compEnvC scope cl C env)) (fun y s'' => t i = true ∧ PureT h₀ L m { s₁ with heap := h, toks := tk } ((I, oI) :: (C, oC) :: (D, LCg.lst ys) :: news) (f i) y s'') E' s'
            else t i = false ∧ PureT h₀ L m { s₁ with heap := h, toks := tk } ((I, oI) :: (C, oC) :: (D, LCg.lst ys) :: news) .none .none s') E' { s₁ with heap := h, toks := tk }) ∧
      (∀ D h tk, Fr h₀ L h m → News h₀ L h ((D, LCg.lst (((List.range its.size).filter t).map f)) :: news) → (∀ p ∈ news, p.1 ≠ D) → Q (.ref D) { s₁ with heap := h, toks := tk })) E s)
    (hs : ∀ x, foldedSetIterable iter env x = pure x := by intro _; rfl) :
    wpAny (model prog w) A (eval (.ListComp elt [⟨.Tuple [.Name a pa, .Name b pb] kk tp, iter, ifs, 0⟩] scope pos) env) Q E s := by
  rw [eval_ListComp]
  refine wpAny_comprehension_free (use := none) rfl hs hclos hkind hnames (wpAny_mono hmain (fun xv s₁ h₁ => ?_) fun _ _ e => e)
  obtain ⟨ax, its, news, rfl, hh, F, N, S, hsz, tup, turn, fin⟩ := h₁
  have hl := S.list F.keep N
  have hlt : ax < s₁.heap.objs.size := by obtain ⟨_, e, _⟩ := hl; exact Heap.lt_size e
  refine wpAny_pyIter_list hl ?_
  have W := Walks.list (prog := prog) (w := w) (A := A) hh s₁.heap.objs.size ax (Nat.ne_of_lt hlt) its
  generalize hI : s₁.heap.objs.size = I at W ⊢
  have fresh : ∀ a, s₁.heap.objs.size ≤ a → h₀.get? a = none := fun a ha => by
    cases e : h₀.get? a with
    | none => rfl
    | some o => exact absurd (Nat.lt_of_lt_of_le (Heap.lt_size (F.keep a o e)) ha) (Nat.lt_irrefl _)
  generalize hH1 : s₁.heap.push { cls := .type "list_iterator", data := .fields #[.ref ax, .int 0 0] } = H1
  have z1 : H1.objs.size = I + 1 := by rw [← hH1, Heap.size_push, hI]
  have F1 : Fr h₀ L H1 m := by rw [← hH1]; exact F.push _
  have N1 : News h₀ L H1 ((I, { cls := .type "list_iterator", data := .fields #[.ref ax, .int 0 0] }) :: news) := by rw [← hH1, ← hI]; exact N.push F _
  refine wpAny_newObj_type (wpAny_newFunctionEnv hcell (by intro y hy; simp at hy) (fun h₁ hns₁ hsb₁ => ?_) hkind)
  dsimp only at hns₁ hsb₁ ⊢
  generalize hD : H1.objs.size = D
  have zD : D = I + 1 := by rw [← hD, z1]
  generalize hH2 : H1.push { cls := .type "list", dict := none, data := .seq ([] : List Value).toArray } = H2 at hns₁ hsb₁ ⊢
  have z2 : H2.objs.size = D + 1 := by rw [← hH2, Heap.size_push, hD]
  have F2 : Fr h₀ L H2 m := by rw [← hH2]; exact F1.push _
  have N2 : News h₀ L H2 ((D, LCg.lst []) :: (I, { cls := .type "list_iterator", data := .fields #[.ref ax, .int 0 0] }) :: news) := by rw [← hH2, ← hD]; exact N1.push F1 _
  generalize hC : H2.objs.size = C at hns₁ hsb₁ ⊢
  have zC : C = D + 1 := by rw [← hC, z2]
  have old : ∀ b o, H2.get? b = some o → h₁.get? b = some o := fun b o e => hsb₁.extBut b o (Nat.ne_of_lt (hC ▸ Heap.lt_size e)) (Heap.get?_push_of_some _ e)
  have F3 : Fr h₀ L h₁ m := F2.keeps old
  have N3 : News h₀ L h₁ ((D, LCg.lst []) :: (I, { cls := .type "list_iterator", data := .fields #[.ref ax, .int 0 0] }) :: news) := fun p hp => ⟨old _ _ (N2 p hp).1, (N2 p hp).2⟩
  have lo : ∀ p ∈ news, @LT.lt Nat _ p.1 I := fun p hp => hI ▸ Heap.lt_size (N p hp).1
  have hLI : @LT.lt Nat _ L I := hI ▸ F.ns.lt
  have i0 : h₀.get? I = none := fresh _ (by omega)
  have c0 : h₀.get? C = none := fresh _ (by omega)
  have d0 : h₀.get? D = none := fresh _ (by omega)
  have off : ∀ p ∈ news, p.1 ≠ I ∧ p.1 ≠ C ∧ p.1 ≠ D := fun p hp => by
    have := lo p hp
    refine ⟨?_, ?_, ?_⟩ <;> exact Nat.ne_of_lt (by omega)
  have hCI : @Ne Nat C I := by omega
  have hCD : @Ne Nat C D := by omega
  have hDI : @Ne Nat D I := by omega
  have loop : ∀ s₃ : Shared, s₃ = { s₁ with heap := h₁, toks := s₁.toks + ([] : List (Str × Value)).length } →
      codeAny (model prog w) A (.compLoop (.ListComp elt [⟨.Tuple [.Name a pa, .Name b pb] kk tp, iter, ifs, 0⟩] scope pos) 0 (.ref I) (.ref D) (compEnvC scope cl C env))
        (compPost (model prog w) A E none Q (.ref D) C) s₃ := by
    rintro s₃ rfl
    refine loop_T
      (fun k s' => ∃ h' tk i ys m', s' = { s₁ with heap := h', toks := tk } ∧ i ≤ its.size ∧ k = its.size + 1 - i ∧ ys.length ≤ i ∧ (h'.IsListIter I ax i ∧ h'.IsList ax its) ∧ Fr h₀ L h' m ∧ h'.Ns C m' ∧
        News h₀ L h' ((D, LCg.lst ys) :: news) ∧ ys = ((List.range i).filter t).map f) ?_ (its.size + 1)
      ⟨h₁, _, 0, [], _, rfl, Nat.zero_le _, rfl, Nat.le_refl _, ⟨⟨_, (N3 _ (.tail _ (.head _))).1, rfl, rfl⟩, S.list F3.keep (fun p hp => N3 p (.tail _ (.tail _ hp)))⟩, F3, hns₁,
        (fun p hp => N3 p (by rcases List.mem_cons.mp hp with rfl | hp; exact .head _; exact .tail _ (.tail _ hp))), rfl⟩
    rintro k s' ⟨h', tk, i, ys, m', rfl, hi, rfl, hyl, hst, F', hn', N', hys⟩
    by_cases hlt' : i < its.size
    · refine W.item i _ _ _ hlt' hst fun v h₂ tk₂ hPv hst₂ hk₂ => ?_
      have keep₂ : ∀ b o, b ≠ I → h'.get? b = some o → h₂.get? b = some o := fun b o hb e => hk₂ b o (by simpa using hb) e
      obtain ⟨T, rfl, hT⟩ := tup i v hPv
      have hT₂ : h₂.get? T = some _ := keep₂ _ _ (off _ hT).1 (N' _ (.tail _ hT)).1
      refine wpAny_letOwnedTupleGo_listiter hst₂.1 ?_
      refine kcp_assign (env := compEnvC scope cl C env) hh ⟨_, hT₂, rfl, _, rfl⟩ (lookup_relabel_local hxa) (lookup_relabel_local hxb) (by simp [compEnvC, relabel, hkind]) (hn'.at' fun o e => keep₂ _ o hCI e) fun h₃ tk₃ hn₃ hs₃ => ?_
      have keep₃ : ∀ b o, b ≠ I → b ≠ C → h'.get? b = some o → h₃.get? b = some o := fun b o hb hb' e => hs₃ b o hb' (keep₂ b o hb e)
      obtain ⟨⟨oI, eI, cI, dI⟩, l₂⟩ := hst₂
      have eI₃ : h₃.get? I = some oI := hs₃ _ _ (fun e => hCI e.symm) eI
      obtain ⟨oC, eC₃, hoC⟩ := LCg.ns_obj hn₃
      have F₃ : Fr h₀ L h₃ m := ⟨F'.ns.at' fun o e => keep₃ L o (Nat.ne_of_lt hLI) (Nat.ne_of_lt (by omega)) e, fun b o e => keep₃ b o (fun q => by rw [q, i0] at e; cases e) (fun q => by rw [q, c0] at e; cases e) (F'.keep b o e), F'.above⟩
      have N₃ : News h₀ L h₃ ((I, oI) :: (C, oC) :: (D, LCg.lst ys) :: news) := fun p hp => by
        simp only [List.mem_cons] at hp
        rcases hp with rfl | rfl | rfl | hp
        · exact ⟨eI₃, Nat.ne_of_gt hLI, i0⟩
        · exact ⟨eC₃, Nat.ne_of_gt (by omega), c0⟩
        · exact ⟨keep₃ _ _ hDI (fun e => hCD e.symm) (N' _ (.head _)).1, (N' _ (.head _)).2⟩
        · exact ⟨keep₃ _ _ (off p hp).1 (off p hp).2.1 (N' p (.tail _ hp)).1, (N' p (.tail _ hp)).2⟩
      have close : ∀ (ys' : List Value) (h₄ : Heap) (tk₄ : Nat), Fr h₀ L h₄ m → News h₀ L h₄ ((I, oI) :: (C, oC) :: (D, LCg.lst ys') :: news) → ys'.length ≤ i + 1 → ys' = ((List.range (i + 1)).filter t).map f →
          ∃ mm, mm < its.size + 1 - i ∧ ∃ h' tk i ys m', ({ s₁ with heap := h₄, toks := tk₄ } : Shared) = { s₁ with heap := h', toks := tk } ∧ i ≤ its.size ∧ mm = its.size + 1 - i ∧ ys.length ≤ i ∧ (h'.IsListIter I ax i ∧ h'.IsList ax its) ∧ Fr h₀ L h' m ∧ h'.Ns C m' ∧
            News h₀ L h' ((D, LCg.lst ys) :: news) ∧ ys = ((List.range i).filter t).map f := fun ys' h₄ tk₄ F₄ N₄ hl4 e4 =>
        ⟨its.size + 1 - (i + 1), by omega, h₄, tk₄, i + 1, ys', _, rfl, hlt', rfl, hl4, ⟨⟨oI, (N₄ _ (.head _)).1, cI, dI⟩, S.list F₄.keep fun p hp => N₄ p (.tail _ (.tail _ (.tail _ hp)))⟩, F₄, hoC.ns (N₄ (C, oC) (.tail _ (.head _))).1, fun p hp => N₄ p (.tail _ (.tail _ hp)), e4⟩
      refine wpAny_mono (turn i I oI C oC D _ ys h₃ tk₃ _ hlt' hoC (by simp [hab]) (by simp) F₃ N₃) (fun ok s₄ h₄ => ?_) fun _ _ e => e
      cases ok with
      | true =>
        simp only [if_true] at h₄ ⊢
        refine wpAny_mono h₄ (fun y s₅ h₅ => ?_) fun _ _ e => e
        obtain ⟨ht, rfl, h₅', tk₅, rfl, F₅, N₅⟩ := h₅
        refine append_at (hsz := by show ys.toArray.size ≤ sizeLine; rw [List.size_toArray]; omega) (N₅ (D, LCg.lst ys) (.tail _ (.tail _ (.head _)))).1 fun h₆ hs₆ hD₆ => ?_
        refine close (ys ++ [f i]) h₆ tk₅ (F₅.change hs₆ (Nat.ne_of_gt (by omega)) d0) (fun p hp => ?_) (by rw [List.length_append, List.length_singleton]; omega) (by rw [List.range_succ, List.filter_append, List.map_append, hys]; simp [ht])
        simp only [List.mem_cons] at hp
        rcases hp with rfl | rfl | rfl | hp
        · exact ⟨hs₆.extBut _ _ (fun e => hDI e.symm) (N₅ (I, oI) (.head _)).1, (N₅ (I, oI) (.head _)).2⟩
        · exact ⟨hs₆.extBut _ _ hCD (N₅ (C, oC) (.tail _ (.head _))).1, (N₅ (C, oC) (.tail _ (.head _))).2⟩
        · exact ⟨hD₆.trans (congrArg some (LCg.lst_snoc ys (f i))), (N₅ (D, LCg.lst ys) (.tail _ (.tail _ (.head _)))).2⟩
        · have z := N₅ p (.tail _ (.tail _ (.tail _ hp)))
          exact ⟨hs₆.extBut _ _ (off p hp).2.2 z.1, z.2⟩
      | false =>
        simp only [Bool.false_eq_true, if_false] at h₄ ⊢
        obtain ⟨ht, -, h₅', tk₅, rfl, F₅, N₅⟩ := h₄
        exact close ys h₅' tk₅ F₅ N₅ (by omega) (by rw [List.range_succ, List.filter_append, List.map_append, hys]; simp [ht])
    · obtain rfl : i = its.size := Nat.le_antisymm hi (Nat.not_lt.mp hlt')
      refine W.done _ _ _ hst fun h₂ tk₂ hk₂ => ?_
      have keep₂ : ∀ b o, b ≠ I → h'.get? b = some o → h₂.get? b = some o := fun b o hb e => hk₂ b o (by simpa using hb) e
      refine ⟨m', hn'.at' fun o e => keep₂ C o hCI e, fun h₃ hs₃ => ?_⟩
      have keep₃ : ∀ b o, b ≠ I → b ≠ C → h'.get? b = some o → h₃.get? b = some o := fun b o hb hb' e => hs₃.extBut b o hb' (keep₂ b o hb e)
      subst hys
      refine fin D h₃ tk₂ ⟨F'.ns.at' fun o e => keep₃ L o (Nat.ne_of_lt hLI) (Nat.ne_of_lt (by omega)) e, fun b o e => keep₃ b o (fun q => by rw [q, i0] at e; cases e) (fun q => by rw [q, c0] at e; cases e) (F'.keep b o e), F'.above⟩ (fun p hp => ?_) fun p hp => (off p hp).2.2
      rcases List.mem_cons.mp hp with rfl | hp
      · exact ⟨keep₃ _ _ hDI (fun e => hCD e.symm) (N' _ (.head _)).1, (N' _ (.head _)).2⟩
      · exact ⟨keep₃ _ _ (off p hp).1 (off p hp).2.1 (N' p (.tail _ hp)).1, (N' p (.tail _ hp)).2⟩
  have lp := loop _ rfl
  exact codeAny_compStart_list lp (W.self 0 _ _ _ ⟨⟨_, (N3 _ (.tail _ (.head _))).1, rfl, rfl⟩, S.list F3.keep (fun p hp => N3 p (.tail _ (.tail _ hp)))⟩ lp)
end
end Mine

end
namespace Mine
set_option maxRecDepth 100000
set_option maxHeartbeats 8000000
variable {w : World} {p : Program} {loose : List Str} {mean : ExcName → Option Value} {mg mb : Str → Option Value}
theorem eq_tv_declines {x y c : Addr} {nm : Str} {vals : List Addr} {ub : Addr} :
    Does w p loose mean mg mb 4 201 [.ref x, .ref y] [] (fun g => TvAt (hAt g) x nm vals ub ∧ InstTo (hAt g) y c) (fun r tl => tl = [] ∧ r = .notImplemented) := by
  intro dp un gd cn cs' a ccd cl outer A₀ base h₀ L m news s Q E B F X N T hk hW hd hu hret
  refine wpAny_call ?_
  (first | (k_dflt (refine' code_defG (binds := [(Str.ofString "self", .ref x), (Str.ofString "other", .ref y)]) ?k1 ?k2 ?k3 ?k4 ?k5 ?kA ?kF ?kK ?k6 ?k7 ?k8 ?k9 ?kB ?_ ?c2 ?c3 ?c4 ?c5; (case kA => exact rfl); (case kF => exact rfl); (case kK => first | exact rfl | assumption); (case k1 => k_asm); (case k2 => k_asm); (case k3 => k_asm); (case k4 => k_asm); (case k5 => k_asm); (case k6 => k_is); (case k7 => k_is); (case k8 => k_room); (case k9 => first | exact BindsTo.of_eq rfl | exact binds_K (by k_in) rfl (by k_is) rfl rfl rfl); (case c5 => decide); (case kB => exact locs rfl); (case c2 => exact rfl); (case c3 => exact rfl); (case c4 => exact rfl); k_whole)) | fail "enter")
  intro g L₁ h₁ FG F₁ N₁ B₁ X₁ T₁ G
  dsimp only [List.reverse, List.reverseAux] at F₁
  (try dsimp only)
  (try k_unmd)
  k_fold
  obtain ⟨hx, hy⟩ := hW _ G
  obtain ⟨dx, ox, ex1, ex2⟩ := hx.obj
  obtain ⟨dy, ty, py1, qy1, py2, qy2, ny1, ny2, ey1, ey2, ey3⟩ := hy
  k_steps
  all_goals (refine hret _ [] _ _ (by assumption) (cb_drop (by assumption) (by kcf_all)) (gsub_trans G (Fr.keep (by assumption))) (by simp) ?_; exact ⟨rfl, rfl⟩)
theorem eq_it_declines {x y c : Addr} {nm : Str} {vals : List Addr} {ub : Addr} :
    Does w p loose mean mg mb 4 302 [.ref y, .ref x] [] (fun g => TvAt (hAt g) x nm vals ub ∧ InstTo (hAt g) y c) (fun r tl => tl = [] ∧ r = .notImplemented) := by
  intro dp un gd cn cs' a ccd cl outer A₀ base h₀ L m news s Q E B F X N T hk hW hd hu hret
  refine wpAny_call ?_
  (first | (k_dflt (refine' code_defG (binds := [(Str.ofString "self", .ref y), (Str.ofString "other", .ref x)]) ?k1 ?k2 ?k3 ?k4 ?k5 ?kA ?kF ?kK ?k6 ?k7 ?k8 ?k9 ?kB ?_ ?c2 ?c3 ?c4 ?c5; (case kA => exact rfl); (case kF => exact rfl); (case kK => first | exact rfl | assumption); (case k1 => k_asm); (case k2 => k_asm); (case k3 => k_asm); (case k4 => k_asm); (case k5 => k_asm); (case k6 => k_is); (case k7 => k_is); (case k8 => k_room); (case k9 => first | exact BindsTo.of_eq rfl | exact binds_K (by k_in) rfl (by k_is) rfl rfl rfl); (case c5 => decide); (case kB => exact locs rfl); (case c2 => exact rfl); (case c3 => exact rfl); (case c4 => exact rfl); k_whole)) | fail "enter")
  intro g L₁ h₁ FG F₁ N₁ B₁ X₁ T₁ G
  dsimp only [List.reverse, List.reverseAux] at F₁
  (try dsimp only)
  (try k_unmd)
  k_fold
  obtain ⟨hx, hy⟩ := hW _ G
  obtain ⟨dx, ox, ex1, ex2⟩ := hx.obj
  obtain ⟨dy, ty, py1, qy1, py2, qy2, ny1, ny2, ey1, ey2, ey3⟩ := hy
  k_steps
  all_goals (refine hret _ [] _ _ (by assumption) (cb_drop (by assumption) (by kcf_all)) (gsub_trans G (Fr.keep (by assumption))) (by simp) ?_; exact ⟨rfl, rfl⟩)
end Mine

namespace Mine
set_option maxRecDepth 100000
set_option maxHeartbeats 8000000
variable {w : World} {p : Program} {loose : List Str} {mean : ExcName → Option Value} {mg mb : Str → Option Value}
theorem visit_tv_does {chs : List (List Nat)} {cs : List Addr} {i j : Nat} {v x x0 ub y : Addr} {b : Bool} {nm : Str} (h0 : 0 < chs.length) (hi : i < chs.length) (hj : j < chs.length) (hmem : ∀ i k, k ∈ chs.getD i [] → k < chs.length) (hs : ∀ i, i < chs.length → sub chs i i = true) :
    Does w p loose mean mg mb 20 607 [.ref v, .ref x] [] (fun g => Wd (hAt g) chs cs ∧ TvAt (hAt g) x nm [x0] ub ∧ InstTo (hAt g) x0 (cs.getD i 0) ∧ InstTo (hAt g) ub (cs.getD 0 0) ∧ InstTo (hAt g) y (cs.getD j 0) ∧ VisAt g v y b) (fun r tl => tl = [] ∧ r = .bool (sub chs i j || sub chs 0 j)) := by
  intro dp un gd cn cs' a ccd cl outer A₀ base h₀ L m news s Q E B F X N T hk hW hd hu hret
  refine wpAny_call ?_
  (first | (k_dflt (refine' code_defG (binds := [(Str.ofString "self", .ref v), (Str.ofString "left", .ref x)]) ?k1 ?k2 ?k3 ?k4 ?k5 ?kA ?kF ?kK ?k6 ?k7 ?k8 ?k9 ?kB ?_ ?c2 ?c3 ?c4 ?c5; (case kA => exact rfl); (case kF => exact rfl); (case kK => first | exact rfl | assumption); (case k1 => k_asm); (case k2 => k_asm); (case k3 => k_asm); (case k4 => k_asm); (case k5 => k_asm); (case k6 => k_is); (case k7 => k_is); (case k8 => k_room); (case k9 => first | exact BindsTo.of_eq rfl | exact binds_K (by k_in) rfl (by k_is) rfl rfl rfl); (case c5 => decide); (case kB => exact locs rfl); (case c2 => exact rfl); (case c3 => exact rfl); (case c4 => exact rfl); k_whole)) | fail "enter")
  intro g L₁ h₁ FG F₁ N₁ B₁ X₁ T₁ G
  dsimp only [List.reverse, List.reverseAux] at F₁
  (try dsimp only)
  (try k_unmd)
  k_fold
  obtain ⟨hw, hx, hx0, hub, hy, hv⟩ := hW _ G
  obtain ⟨d, i', di, vl, h1, k1, h2, k2, h3, k3, h4, k4, h5, k5, h6, k6, h7, k7, t1, t2, t3, t4, n1, n2, n3, r, a1, a2, a3, a4, a5⟩ := hx
  have hy' := hy
  obtain ⟨dv, pv1, qv1, pv2, qv2, nv, ev1, ev2⟩ := hv
  obtain ⟨dy, ty, py1, qy1, py2, qy2, ny1, ny2, ey1, ey2, ey3⟩ := hy'
  k_steps
  all_goals (refine hret _ [] _ _ (by assumption) (cb_drop (by assumption) (by kcf_all)) (gsub_trans G (Fr.keep (by assumption))) (by simp) ?_; exact ⟨rfl, by simp_all⟩)
end Mine

section
open PySem.Spec
set_option maxRecDepth 100000
end
local macro_rules | `(tactic| walk_at "call ref") => `(tactic| (k_here; (with_reducible show wpAny _ _ (call (Value.ref 607) [_, _] []) _ _ _); k_dflt (refine' Mine.Does.use (Mine.visit_tv_does ?h0 ?hi ?hj ?hm ?hs) ?k1 ?k2 ?k3 ?k4 ?k5 ?k6 ?k7 ?k8 ?k9 ?_; (case k1 => k_asm); (case k2 => k_asm); (case k3 => k_asm); (case k4 => exact Mine.news_drop1 (Mine.news_drop1 (by k_asm))); (case k5 => k_asm); (case k6 => first | exact rfl | assumption); (case k7 => (intro g9 G9; refine' ⟨?a, ?b, ?c, ?d, ?e, ?f⟩; (case f => exact Mine.visAt_call (by assumption) (by assumption) (by assumption) G9); (case a => exact Mine.Wd.lift (by assumption) (Mine.lift_call (by assumption) (Mine.news_drop1 (Mine.news_drop1 (by assumption))) G9 (by tb_start))); (case b => exact Mine.TvAt.lift (by assumption) (Mine.lift_call (by assumption) (Mine.news_drop1 (Mine.news_drop1 (by assumption))) G9 (by tb_start))); (case c => exact Mine.InstTo.lift (by assumption) (Mine.lift_call (by assumption) (Mine.news_drop1 (Mine.news_drop1 (by assumption))) G9 (by tb_start))); (case d => exact Mine.InstTo.lift (by assumption) (Mine.lift_call (by assumption) (Mine.news_drop1 (Mine.news_drop1 (by assumption))) G9 (by tb_start))); (case e => exact Mine.InstTo.lift (by assumption) (Mine.lift_call (by assumption) (Mine.news_drop1 (Mine.news_drop1 (by assumption))) G9 (by tb_start))))); (case h0 => assumption); (case hi => assumption); (case hj => assumption); (case hm => assumption); (case hs => assumption); (case k8 => k_room); (case k9 => k_units)); (intro _ _ h' tk' F' N' G' _ hR'; obtain ⟨e1', e2'⟩ := hR'; subst e1'; subst e2'); (try simp only [List.nil_append] at N'); (try dsimp only [PySem.W.CmpBack]); (try k_sweep)))
namespace Mine
set_option maxRecDepth 100000
set_option maxHeartbeats 8000000
variable {w : World} {p : Program} {loose : List Str} {mean : ExcName → Option Value} {mg mb : Str → Option Value}
theorem usub_tv_does {chs : List (List Nat)} {cs : List Addr} {i j : Nat} {x x0 ub y : Addr} {nm : Str} (h0 : 0 < chs.length) (hi : i < chs.length) (hj : j < chs.length) (hmem : ∀ i k, k ∈ chs.getD i [] → k < chs.length) (hs : ∀ i, i < chs.length → sub chs i i = true) :
    Does w p loose mean mg mb 25 544 [.ref x, .ref y, .bool false] [] (fun g => Wd (hAt g) chs cs ∧ TvAt (hAt g) x nm [x0] ub ∧ InstTo (hAt g) x0 (cs.getD i 0) ∧ InstTo (hAt g) ub (cs.getD 0 0) ∧ InstTo (hAt g) y (cs.getD j 0)) (fun r tl => tl = [] ∧ r = .bool (sub chs i j || sub chs 0 j)) := by
  intro dp un gd cn cs' a ccd cl outer A₀ base h₀ L m news s Q E B F X N T hk hW hd hu hret
  refine wpAny_call ?_
  (first | (k_dflt (refine' Mine.enterC (binds := [(Str.ofString "left", .ref x), (Str.ofString "right", .ref y), (Str.ofString "proper_subtype", .bool false)]) ?k1 ?k2 ?k3 ?k4 ?k5 ?kA ?kF ?kK ?k6 ?k7 ?k8 ?k9 ?kB ?kD ?_ ?c2 ?c3 ?c4; (case kA => exact rfl); (case kF => exact rfl); (case kK => first | exact rfl | assumption); (case k1 => k_asm); (case k2 => k_asm); (case k3 => k_asm); (case k4 => k_asm); (case k5 => k_asm); (case k6 => k_is); (case k7 => k_is); (case k8 => k_room); (case k9 => first | exact BindsTo.of_eq rfl | exact binds_K (by k_in) rfl (by k_is) rfl rfl rfl); (case kB => exact rfl); (case kD => decide +kernel); (case c2 => exact rfl); (case c3 => exact rfl); (case c4 => exact rfl); k_whole)) | fail "enter")
  intro g L₁ h₁ tk₁ cells FG F₁ N₁ Y₁ B₁ X₁ T₁ G l₁
  (try k_lt l₁)
  k_cells Y₁
  (try simp only [List.cons_append, List.nil_append] at N₁)
  (try dsimp only)
  (try k_unmd)
  k_fold
  obtain ⟨hw, hx, hx0, hub, hy⟩ := hW _ G
  have hx' := hx
  obtain ⟨dx, ix, dix, vlx, gx1, kx1, gx2, kx2, gx3, kx3, gx4, kx4, gx5, kx5, gx6, kx6, gx7, kx7, tx1, tx2, tx3, tx4, nx1, nx2, nx3, rx, ex1, ex2, ex3, ex4, ex5⟩ := hx'
  have hy' := hy
  obtain ⟨dy, ty, py1, qy1, py2, qy2, ny1, ny2, ey1, ey2, ey3⟩ := hy'
  k_steps

  all_goals (refine hret _ [] _ _ (by assumption) (cb_drop (by assumption) (by kcf_all)) (gsub_trans G (Fr.keep (by assumption))) (by simp) ?_; exact ⟨rfl, rfl⟩)
end Mine

section
open PySem.Spec
set_option maxRecDepth 100000
namespace Mine
theorem ne_of_objs {h : Heap} {x y : Addr} {o1 o2 : Obj} (h1 : h.get? x = some o1) (h2 : h.get? y = some o2) (hne : o1.cls ≠ o2.cls) : x ≠ y := fun e => by
  subst e
  rw [h1] at h2
  cases h2
  exact hne rfl
end Mine
end
local macro_rules | `(tactic| walk_at "compareOp Eq ref ref") => `(tactic| (k_here; (with_reducible show wpAny _ _ (compareOp CmpOp.Eq (Value.ref _) (Value.ref _)) _ _ _); k_dflt (refine' Mine.eq_NI (C := 204) (D := 312) Mine.eq_tv_declines Mine.eq_it_declines ?k1 ?k2 ?k3 ?k4 ?k5 ?k6 ?k7 ?k8 ?k9 ?hx ?hdx ?hy ?hdy ?hn ?hs ?hf ?hs2 ?hf2 ?hxy ?_; (case hx => tb_rel); (case hdx => tb_rel); (case hy => tb_rel); (case hdy => tb_rel); (case k1 => k_asm); (case k2 => k_asm); (case k3 => k_asm); (case k4 => k_asm); (case k5 => k_asm); (case k6 => first | exact rfl | assumption); (case k7 => (intro g9 G9; refine' ⟨?a, ?b⟩; (case a => exact Mine.TvAt.lift (by assumption) (Mine.lift_call (by assumption) (by assumption) G9 (by tb_start))); (case b => exact Mine.InstTo.lift (by assumption) (Mine.lift_call (by assumption) (by assumption) G9 (by tb_start))))); (case k8 => k_room); (case k9 => k_units); (case hn => k_is); (case hs => k_is); (case hf => k_is); (case hs2 => k_is); (case hf2 => k_is); (case hxy => (refine' Mine.ne_of_objs ?u ?v ?n; (case u => tb_rel); (case v => tb_rel); (case n => (intro e; cases e))))); (intro h' tk' F' N' G'); (try k_sweep)))
local macro_rules | `(tactic| walk_at "call ref") => `(tactic| (k_here; (with_reducible show wpAny _ _ (call (Value.ref 544) [_, _, _] []) _ _ _); k_dflt (refine' Mine.Does.use (Mine.usub_tv_does ?h0 ?hi ?hj ?hm ?hs) ?k1 ?k2 ?k3 ?k4 ?k5 ?k6 ?k7 ?k8 ?k9 ?_; (case k1 => k_asm); (case k2 => k_asm); (case k3 => k_asm); (case k4 => k_asm); (case k5 => k_asm); (case k6 => first | exact rfl | assumption); (case k7 => (intro g9 G9; refine' ⟨?a, ?b, ?c, ?d, ?e⟩; (case a => exact Mine.Wd.lift (by assumption) (Mine.lift_call (by assumption) (by assumption) G9 (by tb_start))); (case b => exact Mine.TvAt.lift (by assumption) (Mine.lift_call (by assumption) (by assumption) G9 (by tb_start))); (case c => exact Mine.InstTo.lift (by assumption) (Mine.lift_call (by assumption) (by assumption) G9 (by tb_start))); (case d => exact Mine.InstTo.lift (by assumption) (Mine.lift_call (by assumption) (by assumption) G9 (by tb_start))); (case e => exact Mine.InstTo.lift (by assumption) (Mine.lift_call (by assumption) (by assumption) G9 (by tb_start))))); (case h0 => assumption); (case hi => assumption); (case hj => assumption); (case hm => assumption); (case hs => assumption); (case k8 => k_room); (case k9 => k_units)); (intro _ _ h' tk' F' N' G' _ hR'; obtain ⟨e1', e2'⟩ := hR'; subst e1'; subst e2'); (try simp only [List.nil_append] at N'); (try dsimp only [PySem.W.CmpBack]); (try k_sweep)))
namespace Mine
set_option maxRecDepth 100000
set_option maxHeartbeats 8000000
variable {w : World} {p : Program} {loose : List Str} {mean : ExcName → Option Value} {mg mb : Str → Option Value}
theorem sub_tv_does {chs : List (List Nat)} {cs : List Addr} {i j : Nat} {x x0 ub y : Addr} {nm : Str} (h0 : 0 < chs.length) (hi : i < chs.length) (hj : j < chs.length) (hmem : ∀ i k, k ∈ chs.getD i [] → k < chs.length) (hs : ∀ i, i < chs.length → sub chs i i = true) :
    Does w p loose mean mg mb 28 520 [.ref x, .ref y] [] (fun g => Wd (hAt g) chs cs ∧ TvAt (hAt g) x nm [x0] ub ∧ InstTo (hAt g) x0 (cs.getD i 0) ∧ InstTo (hAt g) ub (cs.getD 0 0) ∧ InstTo (hAt g) y (cs.getD j 0)) (fun r tl => tl = [] ∧ r = .bool (sub chs i j || sub chs 0 j)) := by
  intro dp un gd cn cs' a ccd cl outer A₀ base h₀ L m news s Q E B F X N T hk hW hd hu hret
  refine wpAny_call ?_
  (first | (k_dflt (refine' code_defG (binds := [(Str.ofString "left", .ref x), (Str.ofString "right", .ref y), (Str.ofString "proper_subtype", .bool false)]) ?k1 ?k2 ?k3 ?k4 ?k5 ?kA ?kF ?kK ?k6 ?k7 ?k8 ?k9 ?kB ?_ ?c2 ?c3 ?c4 ?c5; (case kA => exact rfl); (case kF => exact rfl); (case kK => first | exact rfl | assumption); (case k1 => k_asm); (case k2 => k_asm); (case k3 => k_asm); (case k4 => k_asm); (case k5 => k_asm); (case k6 => k_is); (case k7 => k_is); (case k8 => k_room); (case k9 => first | exact BindsTo.of_eq rfl | exact binds_K (by k_in) rfl (by k_is) rfl rfl rfl); (case c5 => decide); (case kB => exact locs rfl); (case c2 => exact rfl); (case c3 => exact rfl); (case c4 => exact rfl); k_whole)) | fail "enter")
  intro g L₁ h₁ FG F₁ N₁ B₁ X₁ T₁ G
  dsimp only [List.reverse, List.reverseAux] at F₁
  (try dsimp only)
  (try k_unmd)
  k_fold
  obtain ⟨hw, hx, hx0, hub, hy⟩ := hW _ G
  have hx' := hx
  obtain ⟨dx, ix, dix, vlx, gx1, kx1, gx2, kx2, gx3, kx3, gx4, kx4, gx5, kx5, gx6, kx6, gx7, kx7, tx1, tx2, tx3, tx4, nx1, nx2, nx3, rx, ex1, ex2, ex3, ex4, ex5⟩ := hx'
  have hy' := hy
  obtain ⟨dy, ty, py1, qy1, py2, qy2, ny1, ny2, ey1, ey2, ey3⟩ := hy'
  k_steps

  all_goals (refine hret _ [] _ _ (by assumption) (cb_drop (by assumption) (by kcf_all)) (gsub_trans G (Fr.keep (by assumption))) (by simp) ?_; exact ⟨rfl, rfl⟩)
end Mine

namespace Mine
set_option maxRecDepth 100000
set_option maxHeartbeats 8000000
variable {w : World} {p : Program} {loose : List Str} {mean : ExcName → Option Value} {mg mb : Str → Option Value}
abbrev lamArgs1 : Arguments := { posonlyargs := [], args := [{ arg := Str.ofString "typ", annotation := none, pos := ⟨403, 52, 403, 55⟩ }, { arg := Str.ofString "name", annotation := none, pos := ⟨403, 57, 403, 61⟩ }], vararg := none, kwonlyargs := [], kw_defaults := [], kwarg := none, defaults := [] }
abbrev lamBody1 : PySem.Expr := .Call (.Attribute (.Name (Str.ofString "told") ⟨403, 63, 403, 67⟩) (Str.ofString "append") ⟨403, 63, 403, 74⟩) [.Tuple [.Name (Str.ofString "typ") ⟨403, 76, 403, 79⟩, .Name (Str.ofString "name") ⟨403, 81, 403, 85⟩] 0 ⟨403, 75, 403, 86⟩] [] ⟨403, 63, 403, 87⟩
abbrev lamArgs4 : Arguments := { posonlyargs := [], args := [{ arg := Str.ofString "typ", annotation := none, pos := ⟨423, 55, 423, 58⟩ }, { arg := Str.ofString "name", annotation := none, pos := ⟨423, 60, 423, 64⟩ }], vararg := none, kwonlyargs := [], kw_defaults := [], kwarg := none, defaults := [] }
abbrev lamBody4 : PySem.Expr := .Call (.Attribute (.Name (Str.ofString "told") ⟨423, 66, 423, 70⟩) (Str.ofString "append") ⟨423, 66, 423, 77⟩) [.Tuple [.Name (Str.ofString "typ") ⟨423, 79, 423, 82⟩, .Name (Str.ofString "name") ⟨423, 84, 423, 88⟩] 0 ⟨423, 78, 423, 89⟩] [] ⟨423, 66, 423, 90⟩
abbrev lamScope : Scope := { kind := .function, names := [(Str.ofString "typ", .local), (Str.ofString "name", .local), (Str.ofString "told", .free)], isGenerator := false, isCoroutine := false, more := [] }
abbrev tupO (xs : Array Value) : Obj := { cls := .type "tuple", data := .seq xs }
section
variable {prog : Program} {A₀ A : Around} {s : Shared} {base h₀ : Heap} {outer : List Env} {L : Addr} {m : Str → Option Value} {news : List (Addr × Obj)} {K : Frag}
/-- a lambda of the ledger entered; what is not of the ledger is of its ground -/
theorem kla_codeG {env : Env} {R : Result → Shared → Prop} {name qual : Str} {params : Arguments} {body : PySem.Expr} {scope : Scope} {cl : List (Str × Addr)} {pm ctv : Value} {c' : Addr} {f : Addr} {args : Args} {binds : List (Str × Value)}
    (B : Below A₀ base outer h₀) (F : Fr h₀ L s.heap m) (X₀ : K.In h₀) (N : News h₀ L s.heap news) (T : Top p loose mean mg mb h₀) (hA : A.frames = some (env :: outer)) (hf : env.frame = some L) (hke : env.scope.kind = .function)
    (ho : (f, kla_obj name qual params body scope cl pm c' ctv) ∈ news) (hcd : s.heap.CodeRec (.ref c') qual) (hroom : A.depth < recursionLimit)
    (hbind : bindArgs (kla_fn name qual params body scope cl pm (.ref c') ctv) args = pure binds) (hloc : ∀ y ∈ binds, scope.names.lookup y.1 = some .local)
    (h : ∀ g L' h₁, Fr h₀ L g m → Fr g L' h₁ (fun y => binds.reverse.lookup y) → News g L' h₁ news → Below A base (env :: outer) g → K.In g → Top p loose mean mg mb g → GSub s.heap g (news.map (·.1)) → s.heap.objs.size ≤ L' →
      wpAny (model prog w) (A.deeper (envX qual scope L' f (.ref c') cl)) (eval body (envX qual scope L' f (.ref c') cl))
        (fun v s' => LeaveK h₀ L m g R v s')
        (fun e s' => wpAny (model prog w) (A.deeper (envX qual scope L' f (.ref c') cl)) (leaving (envX qual scope L' f (.ref c') cl) e) (fun _ s'' => R (.error e) s'') (fun e' s'' => R (.error e') s'') s')
        { s with heap := h₁, toks := s.toks + binds.length })
    (hco : scope.isCoroutine = false) (hgen : scope.isGenerator = false) (hk : scope.kind = .function)
    (hcell : ∀ x ∈ scope.names, x.2 ≠ .cell) : codeAny (model prog w) A (.call (.ref f) args) R s := by
  obtain ⟨FG, BG, st, lv⟩ := groundX (R := R) B F N hA hf hke
  refine kla_callFunE hroom (N _ ho).1 rfl hco hgen rfl hcd ?_
  rw [hbind]
  refine wpAny_pure (wpAny_newFunctionEnv hcell hloc (fun h₁ hns hsb => ⟨((T.nolimit).keeps F.keep).fresh _ hsb, ?_⟩) hk)
  show codeAny _ _ (.expr body (envX qual scope s.heap.objs.size f (.ref c') cl)) _ _
  have hk₁ : ∀ b o, s.heap.get? b = some o → h₁.get? b = some o := fun b o e => hsb.extBut b o (Nat.ne_of_lt (Heap.lt_size e)) (Heap.get?_push_of_some _ e)
  exact kla_codeExpr (wpAny_mono (h _ s.heap.objs.size h₁ FG ⟨hns, fun b o e => hk₁ b o (of_hideAll _ e), Nat.le_of_eq (hideAll_size _ _)⟩
    (fun p hp => ⟨hk₁ _ _ (N p hp).1, Nat.ne_of_lt (Heap.lt_size (N p hp).1), hideAll_none _ (List.mem_map_of_mem hp)⟩) BG (X₀.keeps st) (T.keeps st) (fun b o e n => hideAll_get _ e n) (Nat.le_refl _)) (fun v s' hl => lv _ _ hl) fun _ _ y => y)
end
theorem not_mem_of_gt4 {f c' ce td a : Addr} (l : @LT.lt Nat _ f a ∧ @LT.lt Nat _ c' a ∧ @LT.lt Nat _ ce a ∧ @LT.lt Nat _ td a) : a ∉ [f, c', ce, td] := by
  intro h
  simp only [List.mem_cons, List.not_mem_nil, or_false] at h
  obtain ⟨l1, l2, l3, l4⟩ := l
  rcases h with rfl | rfl | rfl | rfl
  · exact absurd l1 (Nat.lt_irrefl _)
  · exact absurd l2 (Nat.lt_irrefl _)
  · exact absurd l3 (Nat.lt_irrefl _)
  · exact absurd l4 (Nat.lt_irrefl _)
section
variable {prog : Program} {A : Around} {E : Value → Shared → Prop} {s : Shared} {h₀ : Heap} {L : Addr} {m : Str → Option Value} {news : List (Addr × Obj)}
theorem newTuple_lt {vs : List Value} {Q : Value → Shared → Prop} (F : Fr h₀ L s.heap m) (N : News h₀ L s.heap news)
    (h : ∀ D h', Fr h₀ L h' m → News h₀ L h' ((D, tupO vs.toArray) :: news) → (∀ q ∈ news, q.1 < D) → s.heap.objs.size ≤ D → Q (.ref D) { s with heap := h' }) (hz : vs.length ≤ sizeLine) : wpAny (model prog w) A (newTuple vs) Q E s :=
  newTuple_N F N (fun h' F' N' => h _ h' F' N' (fun p hp => Heap.lt_size (N p hp).1) (Nat.le_refl _)) hz
end
end Mine
local macro_rules | `(tactic| walk_at "newTuple") => `(tactic| (k_here; k_dflt (refine' Mine.newTuple_lt ?F ?N ?_ ?z; (case F => k_asm); (case N => k_asm); (case z => kmk_size)); intro D' h' F' N' l1 lx; (try k_lt l1); (try k_sweep)))
namespace Mine
abbrev tup2 (v : Value) (x : Str) (tx : Tok) : Obj := tupO #[v, .str x tx]
/-- the ledger of a call that may tell: the function, its code, its cell, the list -/
abbrev four (f c' ce td : Addr) (fo oc oce : Obj) (its : Array Value) (n : Nat) : List (Addr × Obj) := [(f, fo), (c', oc), (ce, oce), (td, listOf its n)]
/-- the call of a function that tells: a pair of its two arguments goes to the list's end -/
def Reports (w : World) (p : Program) (loose : List Str) (mean : ExcName → Option Value) (mg mb : Str → Option Value) (f c' ce td : Addr) (fo oc oce : Obj) : Prop :=
  ∀ {dp un : Nat} {gd : Option (List Code)} {cn : Str} {cs : Scope} {a : Addr} {ccd : Value} {cl : List (Str × Addr)} {outer : List Env} {A₀ : Around} {base h₀ : Heap} {L : Addr}
    {m : Str → Option Value} {s : Shared} {Q E : Value → Shared → Prop} {v : Value} {its : Array Value} {n : Nat} {tx : Tok} {x : Str},
    Below A₀ base outer h₀ → Fr h₀ L s.heap m → (hd.heap_39 w.params).In h₀ → News h₀ L s.heap (four f c' ce td fo oc oce its n) →
    Top p loose mean mg mb h₀ → cs.kind = .function → its.size ≤ 100 → dp + 5 < recursionLimit → un + 100 < cLine →
    (∀ tp h' tk', Fr h₀ L h' m → News h₀ L h' ((tp, tup2 v x tx) :: four f c' ce td fo oc oce (its.push (.ref tp)) (n + 1)) → GSub s.heap h' [f, c', ce, td] → s.heap.objs.size ≤ tp → Q .none { s with heap := h', toks := tk' }) →
    wpAny (model PG w) (ktrTop dp un gd cn cs L a ccd cl outer) (call (.ref f) [v, .str x tx]) Q E s
theorem lam_call1 {f c' ce td : Addr} {nm qual : Str} {pm ctv : Value} {oc oce : Obj} {vs : Array Value} {t : Tok}
    (hoc : oc.data = .fields vs) (hv : vs[1]? = some (.str qual t)) (hce : oce.data = .cell (some (.ref td))) (o1 : @LT.lt Nat _ ce td) (o2 : @LT.lt Nat _ td c') (o3 : @LT.lt Nat _ c' f) :
    Reports w p loose mean mg mb f c' ce td (kla_obj nm qual lamArgs1 lamBody1 lamScope [(Str.ofString "told", ce)] pm c' ctv) oc oce := by
  intro dp un gd cn cs a ccd cl outer A₀ base h₀ L m s Q E v its n tx x B F X N T hk hsz hdp hu hret
  refine wpAny_call ?_
  (first | (k_dflt (refine' Mine.kla_codeG (binds := [(Str.ofString "typ", v), (Str.ofString "name", .str x tx)]) ?k1 ?k2 ?k3 ?k4 ?k5 ?kA ?kF ?kK ?k6 ?k7 ?k8 ?k9 ?kB ?_ ?c2 ?c3 ?c4 ?c5; (case kA => exact rfl); (case kF => exact rfl); (case kK => first | exact rfl | assumption); (case k1 => k_asm); (case k2 => k_asm); (case k3 => k_asm); (case k4 => k_asm); (case k5 => k_asm); (case k6 => k_mem); (case k7 => exact codeRec_news (by k_asm) (by k_mem) (by assumption) (by assumption)); (case k8 => k_room); (case k9 => exact rfl); (case c5 => decide); (case kB => exact locs rfl); (case c2 => exact rfl); (case c3 => exact rfl); (case c4 => exact rfl); k_whole)) | fail "enter")
  intro g L₁ h₁ FG F₁ N₁ B₁ X₁ T₁ G hL
  have hlt := Nat.le_trans hL (Nat.le_of_lt F₁.ns.lt)
  dsimp only [lamBody1, lamScope]
  (try k_unmd)
  k_fold
  k_dflt (refine MethodCall_ ?_)
  k_dflt (refine' nameX_F ?N ?c ?m ?d ?_ ?a ?b; (case a => rfl); (case b => rfl); (case N => k_asm); (case c => rfl); (case m => k_mem); (case d => k_asm); k_whole)
  k_steps
  refine hret _ _ _ (by assumption) (by assumption) (gsub_trans G (Fr.keep (by assumption))) (Nat.le_trans hlt (by assumption))
theorem lam_call4 {f c' ce td : Addr} {nm qual : Str} {pm ctv : Value} {oc oce : Obj} {vs : Array Value} {t : Tok}
    (hoc : oc.data = .fields vs) (hv : vs[1]? = some (.str qual t)) (hce : oce.data = .cell (some (.ref td))) (o1 : @LT.lt Nat _ ce td) (o2 : @LT.lt Nat _ td c') (o3 : @LT.lt Nat _ c' f) :
    Reports w p loose mean mg mb f c' ce td (kla_obj nm qual lamArgs4 lamBody4 lamScope [(Str.ofString "told", ce)] pm c' ctv) oc oce := by
  intro dp un gd cn cs a ccd cl outer A₀ base h₀ L m s Q E v its n tx x B F X N T hk hsz hdp hu hret
  refine wpAny_call ?_
  (first | (k_dflt (refine' Mine.kla_codeG (binds := [(Str.ofString "typ", v), (Str.ofString "name", .str x tx)]) ?k1 ?k2 ?k3 ?k4 ?k5 ?kA ?kF ?kK ?k6 ?k7 ?k8 ?k9 ?kB ?_ ?c2 ?c3 ?c4 ?c5; (case kA => exact rfl); (case kF => exact rfl); (case kK => first | exact rfl | assumption); (case k1 => k_asm); (case k2 => k_asm); (case k3 => k_asm); (case k4 => k_asm); (case k5 => k_asm); (case k6 => k_mem); (case k7 => exact codeRec_news (by k_asm) (by k_mem) (by assumption) (by assumption)); (case k8 => k_room); (case k9 => exact rfl); (case c5 => decide); (case kB => exact locs rfl); (case c2 => exact rfl); (case c3 => exact rfl); (case c4 => exact rfl); k_whole)) | fail "enter")
  intro g L₁ h₁ FG F₁ N₁ B₁ X₁ T₁ G hL
  have hlt := Nat.le_trans hL (Nat.le_of_lt F₁.ns.lt)
  dsimp only [lamBody4, lamScope]
  (try k_unmd)
  k_fold
  k_dflt (refine MethodCall_ ?_)
  k_dflt (refine' nameX_F ?N ?c ?m ?d ?_ ?a ?b; (case a => rfl); (case b => rfl); (case N => k_asm); (case c => rfl); (case m => k_mem); (case d => k_asm); k_whole)
  k_steps
  refine hret _ _ _ (by assumption) (by assumption) (gsub_trans G (Fr.keep (by assumption))) (Nat.le_trans hlt (by assumption))
end Mine

namespace Mine
set_option maxRecDepth 100000
set_option maxHeartbeats 8000000
variable {w : World} {p : Program} {loose : List Str} {mean : ExcName → Option Value} {mg mb : Str → Option Value}
abbrev lamArgs3 : Arguments := { posonlyargs := [], args := [{ arg := Str.ofString "typ", annotation := none, pos := ⟨416, 50, 416, 53⟩ }, { arg := Str.ofString "name", annotation := none, pos := ⟨416, 55, 416, 59⟩ }], vararg := none, kwonlyargs := [], kw_defaults := [], kwarg := none, defaults := [] }
abbrev lamBody3 : PySem.Expr := .Call (.Attribute (.Name (Str.ofString "told") ⟨416, 61, 416, 65⟩) (Str.ofString "append") ⟨416, 61, 416, 72⟩) [.Tuple [.Name (Str.ofString "typ") ⟨416, 74, 416, 77⟩, .Name (Str.ofString "name") ⟨416, 79, 416, 83⟩] 0 ⟨416, 73, 416, 84⟩] [] ⟨416, 61, 416, 85⟩
theorem lam_call3 {f c' ce td : Addr} {nm qual : Str} {pm ctv : Value} {oc oce : Obj} {vs : Array Value} {t : Tok}
    (hoc : oc.data = .fields vs) (hv : vs[1]? = some (.str qual t)) (hce : oce.data = .cell (some (.ref td))) (o1 : @LT.lt Nat _ ce td) (o2 : @LT.lt Nat _ td c') (o3 : @LT.lt Nat _ c' f) :
    Reports w p loose mean mg mb f c' ce td (kla_obj nm qual lamArgs3 lamBody3 lamScope [(Str.ofString "told", ce)] pm c' ctv) oc oce := by
  intro dp un gd cn cs a ccd cl outer A₀ base h₀ L m s Q E v its n tx x B F X N T hk hsz hdp hu hret
  refine wpAny_call ?_
  (first | (k_dflt (refine' Mine.kla_codeG (binds := [(Str.ofString "typ", v), (Str.ofString "name", .str x tx)]) ?k1 ?k2 ?k3 ?k4 ?k5 ?kA ?kF ?kK ?k6 ?k7 ?k8 ?k9 ?kB ?_ ?c2 ?c3 ?c4 ?c5; (case kA => exact rfl); (case kF => exact rfl); (case kK => first | exact rfl | assumption); (case k1 => k_asm); (case k2 => k_asm); (case k3 => k_asm); (case k4 => k_asm); (case k5 => k_asm); (case k6 => k_mem); (case k7 => exact codeRec_news (by k_asm) (by k_mem) (by assumption) (by assumption)); (case k8 => k_room); (case k9 => exact rfl); (case c5 => decide); (case kB => exact locs rfl); (case c2 => exact rfl); (case c3 => exact rfl); (case c4 => exact rfl); k_whole)) | fail "enter")
  intro g L₁ h₁ FG F₁ N₁ B₁ X₁ T₁ G hL
  have hlt := Nat.le_trans hL (Nat.le_of_lt F₁.ns.lt)
  dsimp only [lamBody3, lamScope]
  (try k_unmd)
  k_fold
  k_dflt (refine MethodCall_ ?_)
  k_dflt (refine' nameX_F ?N ?c ?m ?d ?_ ?a ?b; (case a => rfl); (case b => rfl); (case N => k_asm); (case c => rfl); (case m => k_mem); (case d => k_asm); k_whole)
  k_steps
  refine hret _ _ _ (by assumption) (by assumption) (gsub_trans G (Fr.keep (by assumption))) (Nat.le_trans hlt (by assumption))
end Mine

section
open PySem.Spec
namespace Mine
set_option maxRecDepth 100000
/-- what get_target_type answers: a type, or none that fits -/
def GTOut (typ : Value) (nm : Str) (ok : Option Addr) (skip : Bool) (r : Value) (its its' : Array Value) (tl : List (Addr × Obj)) : Prop :=
  match ok with
  | some x => r = .ref x ∧ its' = its ∧ tl = []
  | none => if skip then r = .none ∧ its' = its ∧ tl = [] else r = typ ∧ ∃ tp t, its' = its.push (.ref tp) ∧ tl = [(tp, tup2 typ nm t)]
def FnObj (fo : Obj) : Prop := ∃ oc od fd sl, fo = (⟨oc, od, .func fd, sl⟩ : Obj)
def Gets (w : World) (p : Program) (loose : List Str) (mean : ExcName → Option Value) (mg mb : Str → Option Value) (k : Nat) (x y : Addr) (b : Bool) (W : Heap → Prop) (nm : Str) (ok : Option Addr) : Prop :=
  ∀ {dp un : Nat} {gd : Option (List Code)} {cn : Str} {cs : Scope} {a : Addr} {ccd : Value} {cl : List (Str × Addr)} {outer : List Env} {A₀ : Around} {base h₀ : Heap} {L : Addr}
    {m : Str → Option Value} {s : Shared} {Q E : Value → Shared → Prop} {f c' ce td : Addr} {fo oc oce : Obj} {its : Array Value} {n : Nat},
    Below A₀ base outer h₀ → Fr h₀ L s.heap m → (hd.heap_39 w.params).In h₀ → News h₀ L s.heap (four f c' ce td fo oc oce its n) →
    Top p loose mean mg mb h₀ → cs.kind = .function → FnObj fo → (b = false → Reports w p loose mean mg mb f c' ce td fo oc oce) → its.size ≤ 100 → (∀ g, GSub s.heap g [f, c', ce, td] → W g) → dp + k < recursionLimit → un + 20 * k < cLine →
    (∀ r its' n' tl h' tk', Fr h₀ L h' m → News h₀ L h' (tl ++ four f c' ce td fo oc oce its' n') → GSub s.heap h' [f, c', ce, td] → (∀ q ∈ tl, s.heap.objs.size ≤ q.1) → GTOut (.ref y) nm ok b r its its' tl → Q r { s with heap := h', toks := tk' }) →
    wpAny (model PG w) (ktrTop dp un gd cn cs L a ccd cl outer) (call (.ref 624) [.ref x, .ref y, .ref f, .bool b]) Q E s
section
variable {prog : Program} {w : World} {A₀ A : Around} {s : Shared} {base h₀ : Heap} {outer : List Env} {L : Addr} {m : Str → Option Value} {env : Env} {news : List (Addr × Obj)} {K : Frag} {p : Program} {loose : List Str} {mean : ExcName → Option Value} {mg mb : Str → Option Value}
  {R : Result → Shared → Prop} {name qual : Str} {params : Arguments} {body : List Stmt} {scope : Scope} {dV kV doc pm cdv ct oc : Value} {an od : Option Addr} {osl : Array (Option Value)} {f : Addr} {args : Args} {binds : List (Str × Value)}
/-- a def with cells, entered; what is not of the ledger is of its ground -/
theorem enterCS (B : Below A₀ base outer h₀) (F : Fr h₀ L s.heap m) (X₀ : K.In h₀) (N : News h₀ L s.heap news) (T : Top p loose mean mg mb h₀) (hA : A.frames = some (env :: outer)) (hf : env.frame = some L) (hke : env.scope.kind = .function)
    (ho : K.lookup f = some ⟨oc, od, .func (fnOf name qual params body scope dV kV doc pm an cdv ct), osl⟩) (hcd : codeIn K cdv qual = true) (hroom : A.depth < recursionLimit)
    (hbind : BindsTo s (fnOf name qual params body scope dV kV doc pm an cdv ct) args binds) (hkind : (binds.all fun y => scope.names.lookup y.1 == some .local || scope.names.lookup y.1 == some .cell) = true)
    (hnd : ((cellsFrom 0 scope.names []).map (·.1)).Nodup)
    (h : ∀ g L' h₁ tk cells, Fr h₀ L g m → Fr g L' h₁ (bindL (envOfC qual scope L' f cdv).kindOf binds fun _ => none) → News g L' h₁ (cells ++ news) →
      CellsAre (bindC (envOfC qual scope L' f cdv).kindOf binds fun _ => none) (cellsFrom (L' + 1) scope.names []) cells → Below A base (env :: outer) g → K.In g → Top p loose mean mg mb g → GSub s.heap g (news.map (·.1)) → (∀ p ∈ news, p.1 < L') → s.heap.objs.size ≤ L' →
      wpAny (model prog w) (A.deeper (envOfC qual scope L' f cdv)) (execs body (envOfC qual scope L' f cdv))
        (fun fl s' => LeaveK h₀ L m g R (match fl with | .ret v => v | _ => .none) s')
        (fun e s' => wpAny (model prog w) (A.deeper (envOfC qual scope L' f cdv)) (leaving (envOfC qual scope L' f cdv) e) (fun _ s'' => R (.error e) s'') (fun e' s'' => R (.error e') s'') s')
        { s with heap := h₁, toks := tk })
    (hco : scope.isCoroutine = false) (hgen : scope.isGenerator = false) (hk : scope.kind = .function) : codeAny (model prog w) A (.call (.ref f) args) R s := by
  obtain ⟨FG, BG, st, lv⟩ := groundX (R := R) B F N hA hf hke
  refine codeAny_call_function hroom ((X₀.keeps F.keep) _ _ ho) rfl hco hgen rfl (codeRec_of (X₀.keeps F.keep) hcd) (hbind _ _ _ _ ?_)
  refine wpAny_newFunctionEnv_cells hk (kindsX hkind _) fun env' he s' x => ?_
  subst he
  refine ⟨(T.nolimit.keeps F.keep).keeps x.toInCall.keep, codeAny_func ?_⟩
  obtain ⟨h₁, tk, rfl, _⟩ := x.done
  have kept := x.toInCall.keep
  obtain ⟨cells, NC, Y⟩ := Cl.news (h₀ := s.heap) (Nat.le_refl _) fun n c hm => ⟨x.cell n c (lookup_of_mem_nodup (cellsFrom_names scope.names 0 (s.heap.objs.size + 1) [] [] rfl ▸ hnd) hm), x.above n c hm⟩
  have NN : News (hideAll s.heap (news.map (·.1))) s.heap.objs.size h₁ (cells ++ news) := fun q hq => by
    rcases List.mem_append.mp hq with hq | hq
    · refine ⟨(NC q hq).1, (NC q hq).2.1, ?_⟩
      cases e : (hideAll s.heap (news.map (·.1))).get? q.1 with
      | none => rfl
      | some o =>
        have := of_hideAll _ e
        rw [(NC q hq).2.2] at this
        cases this
    · exact ⟨kept _ _ (N q hq).1, Nat.ne_of_lt (Heap.lt_size (N q hq).1), hideAll_none _ (List.mem_map_of_mem hq)⟩
  exact wpAny_mono (h _ s.heap.objs.size h₁ tk cells FG ⟨x.toInCall.ns, fun b o e => kept b o (of_hideAll _ e), Nat.le_of_eq (hideAll_size _ _)⟩ NN Y BG (X₀.keeps st) (T.keeps st) (fun b o e n => hideAll_get _ e n) (fun q hq => Heap.lt_size (N q hq).1) (Nat.le_refl _))
    (fun fl s' hl => lv _ _ hl) fun _ _ y => y
end
theorem tp_le {z tp L : Nat} {g h : Heap} {m : Str → Option Value} (l : h.objs.size ≤ tp) (F : Fr g L h m) (hL : z ≤ L) : z ≤ tp := Nat.le_trans hL (Nat.le_trans (Nat.le_of_lt F.ns.lt) l)
theorem news_last4 {h₀ h : Heap} {L : Addr} {pre l : List (Addr × Obj)} (N : News h₀ L h (pre ++ l)) : News h₀ L h l := fun q hq => N q (List.mem_append_right _ hq)
theorem news_and {h₀ h : Heap} {L : Addr} {l l' : List (Addr × Obj)} (N : News h₀ L h l) (N' : News h₀ L h l') : News h₀ L h (l ++ l') := fun q hq => (List.mem_append.mp hq).elim (N q) (N' q)
end Mine
end
local macro_rules | `(tactic| walk_at "callWith ref") => `(tactic| (k_here; k_dflt (refine' callWith_F ?k1 ?_; (case k1 => exact FnAt.of (by k_asm) (by k_mem)); k_whole)))
local macro_rules | `(tactic| walk_at "FnAt") => `(tactic| (k_dflt (exact FnAt.of (by k_asm) (by k_mem))))
local macro_rules | `(tactic| walk_at "And") => `(tactic| ((with_reducible show FnAt _ _ ∧ _); refine ⟨FnAt.of (by k_asm) (by k_mem), ?_⟩; try dsimp only [List.nil_append, List.cons_append]))
local macro_rules | `(tactic| walk_at "call ref") => `(tactic| (k_here; (with_reducible rename Mine.Reports _ _ _ _ _ _ _ _ _ _ _ _ _ => hR'); (with_reducible show wpAny _ _ (call (Value.ref _) [_, Value.str _ _] []) _ _ _); k_dflt (refine' hR' ?k1 ?k2 ?k3 ?k4 ?k5 ?k6 ?k7 ?k8 ?k9 ?_; (case k1 => k_asm); (case k2 => k_asm); (case k3 => k_asm); (case k4 => first | exact Mine.news_drop1 (by k_asm) | exact Mine.news_drop1 (Mine.news_drop1 (by k_asm))); (case k5 => k_asm); (case k6 => first | exact rfl | assumption); (case k7 => assumption); (case k8 => k_room); (case k9 => k_units)); (intro tp' h' tk' F' N' G' l1')))
namespace Mine
set_option maxRecDepth 100000
set_option maxHeartbeats 8000000
variable {w : World} {p : Program} {loose : List Str} {mean : ExcName → Option Value} {mg mb : Str → Option Value}
theorem gt_bound {chs : List (List Nat)} {cs : List Addr} {i j : Nat} {x y ub : Addr} {nm : Str} {b : Bool} (hi : i < chs.length) (hj : j < chs.length) (hmem : ∀ i k, k ∈ chs.getD i [] → k < chs.length) (hs : ∀ i, i < chs.length → sub chs i i = true) :
    Gets w p loose mean mg mb 25 x y b (fun g => Wd (hAt g) chs cs ∧ TvAt (hAt g) x nm [] ub ∧ InstTo (hAt g) ub (cs.getD j 0) ∧ InstTo (hAt g) y (cs.getD i 0)) nm (if sub chs i j then some y else none) := by
  intro dp un gd cn cs' a ccd cl outer A₀ base h₀ L m s Q E f c' ce td fo oc oce its n B F X N T hk hfo hrep hsz hW hd hu hret
  obtain ⟨foc, fod, ffd, fsl, rfl⟩ := hfo
  refine wpAny_call ?_
  (first | (k_dflt (refine' Mine.enterCS (binds := [(Str.ofString "tvar", .ref x), (Str.ofString "typ", .ref y), (Str.ofString "report_incompatible_typevar_value", .ref f), (Str.ofString "skip_unsatisfied", .bool b)]) ?k1 ?k2 ?k3 ?k4 ?k5 ?kA ?kF ?kK ?k6 ?k7 ?k8 ?k9 ?kB ?kD ?_ ?c2 ?c3 ?c4; (case kA => exact rfl); (case kF => exact rfl); (case kK => first | exact rfl | assumption); (case k1 => k_asm); (case k2 => k_asm); (case k3 => k_asm); (case k4 => k_asm); (case k5 => k_asm); (case k6 => k_is); (case k7 => k_is); (case k8 => k_room); (case k9 => first | exact BindsTo.of_eq rfl | exact binds_K (by k_in) rfl (by k_is) rfl rfl rfl); (case kB => exact rfl); (case kD => decide +kernel); (case c2 => exact rfl); (case c3 => exact rfl); (case c4 => exact rfl); k_whole)) | fail "enter")
  intro g L₁ h₁ tk₁ cells FG F₁ N₁ Y₁ B₁ X₁ T₁ G l₁ hL
  (try k_lt l₁)
  k_cells Y₁
  (try simp only [List.cons_append, List.nil_append] at N₁)
  (try dsimp only)
  (try k_unmd)
  k_fold
  have hlt := Nat.le_trans hL (Nat.le_of_lt F₁.ns.lt)
  obtain ⟨hw, hx, hub, hy⟩ := hW _ G
  have hx' := hx
  obtain ⟨dx, ix, dix, vlx, gx1, kx1, gx2, kx2, gx3, kx3, gx4, kx4, gx5, kx5, gx6, kx6, gx7, kx7, tx1, tx2, tx3, tx4, nx1, nx2, nx3, rx, ex1, ex2, ex3, ex4, ex5⟩ := hx'
  have hy' := hy
  obtain ⟨dy, ty, py1, qy1, py2, qy2, ny1, ny2, ey1, ey2, ey3⟩ := hy'
  k_steps
  all_goals try (have hR := @hrep (by assumption); k_steps)
  · refine hret _ its n [] _ _ (by assumption) (news_drop1 (by assumption)) (gsub_trans G (Fr.keep (by assumption))) (by simp) ?_
    rw [show sub chs i j = true by assumption]
    exact ⟨rfl, rfl, rfl⟩
  · refine hret _ its n [] _ _ (by assumption) (news_drop1 (by assumption)) (gsub_trans G (Fr.keep (by assumption))) (by simp) ?_
    rw [show sub chs i j = false by assumption, show b = true by assumption]
    exact ⟨rfl, rfl, rfl⟩
  · refine hret _ _ (n + 1) [_] _ _ (by assumption) (by assumption) (gsub_trans G (Fr.keep (by assumption))) ?_ ?_
    · intro q hq
      rw [List.mem_singleton.mp hq]
      exact tp_le (by assumption) (by assumption) hL
    · rw [show sub chs i j = false by assumption, show b = false by assumption]
      exact ⟨rfl, _, _, rfl, rfl⟩
end Mine

section
open PySem.Spec
namespace Mine
set_option maxRecDepth 100000
/-- the types of the world: the type at a place is one of that class -/
def TsAt (At : Addr → Obj → Prop) (chs : List (List Nat)) (cs ts : List Addr) : Prop := ∀ i, i < chs.length → InstTo At (ts.getD i 0) (cs.getD i 0)
theorem TsAt.lift {At At' : Addr → Obj → Prop} {chs : List (List Nat)} {cs ts : List Addr} (h : TsAt At chs cs ts) (k : ∀ a o, At a o → At' a o) : TsAt At' chs cs ts := fun i hi => (h i hi).mono k
abbrev tyL (ts : List Addr) (ks : List Nat) : List Addr := ks.map fun k => ts.getD k 0
abbrev tyV (ts : List Addr) (ks : List Nat) : List Value := ks.map fun k => Value.ref (ts.getD k 0)
/-- the one that get_target_type picks -/
def pick (chs : List (List Nat)) (b : Nat) (l : List Nat) : Nat := l.foldl (fun b k => if sub chs k b then k else b) b
def best (chs : List (List Nat)) (fit : List Nat) : Option Nat := match fit with
  | [] => none
  | f :: r => some (pick chs f r)
section
variable {prog : Program} {w : World} {A : Around} {E : Value → Shared → Prop} {s : Shared} {env : Env} {h₀ : Heap} {x : Str} {body : List Stmt} {Q : Flow → Shared → Prop}
/-- a loop over a list that is neither the frame nor of what the turns change -/
theorem loopL {l : Addr} {vs : List Value} {m₀ : Str → Option Value} {news : List (Addr × Obj)} (J : Nat → (Str → Option Value) → List (Addr × Obj) → Prop)
    (hh : A.handled = none) (hls : s.heap.IsList l vs.toArray) (hLl : env.locals ≠ l) (F : Fr h₀ env.locals s.heap m₀) (N : News h₀ env.locals s.heap news) (hj : J 0 m₀ news) (off : ∀ i m nx, J i m nx → ∀ q ∈ nx, q.1 ≠ l)
    (turn : ∀ i v m₁ nx h tk own, vs[i]? = some v → TbOff own nx → J i m₁ nx → Fr h₀ env.locals h (fun y => if y = x then some v else m₁ y) → News h₀ env.locals h (nx ++ own) →
      wpAny (model prog w) A (execs body env) (TbPost h₀ env.locals (J (i + 1)) own { s with heap := h, toks := tk } Q) E { s with heap := h, toks := tk })
    (done : ∀ m₁ nx h tk, J vs.length m₁ nx → Fr h₀ env.locals h m₁ → News h₀ env.locals h nx → Q .next { s with heap := h, toks := tk }) :
    wpAny (model prog w) A (pyIter (.ref l)) (fun it s₂ => LoopAtV prog w A h₀ env x body Q E it s₂) E s := by
  obtain ⟨ol, hol, _⟩ := id hls
  have hne : l ≠ s.heap.objs.size := Nat.ne_of_lt (Heap.lt_size hol)
  have up : ∀ b o, s.heap.get? b = some o → (s.heap.push { cls := .type "list_iterator", data := .fields #[.ref l, .int 0 0] }).get? b = some o := fun b o e => Heap.get?_push_of_some _ e
  refine wpAny_pyIter_list hls ?_
  refine ⟨s.heap.objs.size, [s.heap.objs.size, l], [s.heap.objs.size], vs.length, fun i v => vs[i]? = some v, fun i h => h.IsListIter s.heap.objs.size l i ∧ h.IsList l vs.toArray, m₀, news, J, rfl, ?_, ?_, ?_, ?_, ⟨⟨_, Heap.get?_push_size _ rfl, rfl, rfl⟩, hls.at fun o e => up _ _ e⟩, F.push _, (fun p hp => ⟨up _ _ (N p hp).1, (N p hp).2⟩), hj, ?_, ?_⟩
  · have W := Walks.list (prog := prog) (w := w) hh s.heap.objs.size l hne vs.toArray
    simpa using W
  · intro hm
    simp only [List.mem_cons, List.not_mem_nil, or_false] at hm
    rcases hm with e | e
    · exact absurd F.ns.lt (e ▸ Nat.lt_irrefl _)
    · exact hLl e
  · intro b hb
    rw [List.mem_singleton.mp hb]
    exact next_is_new F
  · intro p hp hI
    exact absurd (Heap.lt_size (N p hp).1) ((List.mem_singleton.mp hI) ▸ Nat.lt_irrefl _)
  · rintro i v m₁ nx s₁ own ⟨h, tk, rfl⟩ hin hP hJ hoff hown _ hmem hst F₁ N₁
    obtain ⟨⟨oi, hoi, _⟩, _⟩ := hst
    have hI : (s.heap.objs.size, oi) ∈ own := hmem _ (.head _) (next_is_new F) oi hoi
    have sep : TbOff own nx := by
      intro p hp q hq e
      have hpa := hown p hp
      simp only [List.mem_cons, List.not_mem_nil, or_false] at hpa
      rcases hpa with h1 | h1
      · exact hoff q hq (List.mem_singleton.mpr (by rw [← e, h1]))
      · exact off _ _ _ hJ q hq (by rw [← e, h1])
    have N₂ : News h₀ env.locals h (nx ++ own) := fun p hp => N₁ p ((List.mem_append.mp hp).elim (fun h => List.mem_append.mpr (.inr h)) fun h => List.mem_append.mpr (.inl h))
    refine wpAny_mono (turn i v m₁ nx h tk own hP sep hJ F₁ N₂) (fun f s₂ p => ?_) fun _ _ e => e
    have fin : TbEnd h₀ env.locals (J (i + 1)) own { s with heap := h, toks := tk } s₂ → LoopStepU h₀ env.locals [s.heap.objs.size] own (J (i + 1)) { s with heap := h, toks := tk } .next s₂ := by
      rintro ⟨h', tk, m', news', nx', e, F', N', hn, ho, ha, hm⟩
      exact ⟨rfl, h', tk, m', nx', e, F', fun p hp => N' p ((List.mem_append.mp hp).elim (ho p) (hn p)), fun p hp hq => ha _ hI p hp (List.mem_singleton.mp hq).symm, hm⟩
    cases f with
    | ret v => exact .ret p
    | brk => exact .brk p
    | next => exact .next (fin p)
    | cont => exact .cont (fin p)
  · rintro h' tk m' news' F' N' _ hJ
    exact done m' news' h' tk hJ F' N'
/-- a loop over a list of the base that lets a list of the ledger grow -/
theorem loopF {l D : Addr} {vs : List Value} {m₀ : Str → Option Value} {rest : List (Addr × Obj)} {n0 : Nat} {a0 : Array Value} (acc : Nat → Array Value)
    (hh : A.handled = none) (hl : h₀.IsList l vs.toArray) (F : Fr h₀ env.locals s.heap m₀) (N : News h₀ env.locals s.heap ((D, listOf a0 n0) :: rest)) (h0 : acc 0 = a0)
    (turn : ∀ i v h tk own n, vs[i]? = some v → TbOff own ((D, listOf (acc i) n) :: rest) → Fr h₀ env.locals h (fun y => if y = x then some v else m₀ y) → News h₀ env.locals h (((D, listOf (acc i) n) :: rest) ++ own) →
      wpAny (model prog w) A (execs body env) (TbPost h₀ env.locals (fun m' nx => (∃ n', nx = (D, listOf (acc (i + 1)) n') :: rest) ∧ ∀ z, z ≠ x → m' z = m₀ z) own { s with heap := h, toks := tk } Q) E { s with heap := h, toks := tk })
    (done : ∀ (u : Str → Option Value) h tk n, Fr h₀ env.locals h (fun z => if z = x then u z else m₀ z) → News h₀ env.locals h ((D, listOf (acc vs.length) n) :: rest) → Q .next { s with heap := h, toks := tk }) :
    wpAny (model prog w) A (pyIter (.ref l)) (fun it s₂ => LoopAtV prog w A h₀ env x body Q E it s₂) E s := by
  refine loopB (fun i m nx => (∃ n', nx = (D, listOf (acc i) n') :: rest) ∧ ∀ z, z ≠ x → m z = m₀ z) hh hl F N ⟨⟨n0, by rw [h0]⟩, fun _ _ => rfl⟩ ?_ ?_
  · rintro i v m₁ nx h tk own hv ho ⟨⟨n, rfl⟩, hm⟩ F₁ N₁
    have e : (fun y => if y = x then some v else m₁ y) = fun y => if y = x then some v else m₀ y := by
      funext y
      by_cases q : y = x
      · simp [q]
      · simp [q, hm y q]
    rw [e] at F₁
    exact turn i v h tk own n hv ho F₁ N₁
  · rintro m₁ nx h tk ⟨⟨n, rfl⟩, hm⟩ F₁ N₁
    have e : m₁ = fun z => if z = x then m₁ z else m₀ z := by
      funext y
      by_cases q : y = x
      · simp [q]
      · simp [q, hm y q]
    rw [e] at F₁
    exact done m₁ h tk n F₁ N₁
theorem tbEnd_F {L D : Addr} {own rest all : List (Addr × Obj)} {m₀ m' : Str → Option Value} {s₁ : Shared} {h' : Heap} {tk n n' : Nat} {a a' b : Array Value}
    (F : Fr h₀ L h' m') (N : News h₀ L h' all) (hn : ∀ p ∈ ((D, listOf b n') :: rest) ++ own, p ∈ all) (hs : TbOff own ((D, listOf a n) :: rest)) (hm : ∀ z, z ≠ x → m' z = m₀ z) (e : a' = b) :
    TbEnd h₀ L (fun m' nx => (∃ n', nx = (D, listOf a' n') :: rest) ∧ ∀ z, z ≠ x → m' z = m₀ z) own s₁ { s₁ with heap := h', toks := tk } := by
  subst e
  refine tbEnd_of F N ((D, listOf a' n') :: rest) (fun p h => hn p (List.mem_append.mpr (.inl h))) (fun p h => hn p (List.mem_append.mpr (.inr h))) ?_ ⟨⟨n', rfl⟩, hm⟩
  intro p hp q hq
  rcases List.mem_cons.mp hq with rfl | hq
  · exact hs p hp (D, listOf a n) (.head _)
  · exact hs p hp _ (.tail _ hq)
theorem append_F {prog : Program} {w : World} {A : Around} {s : Shared} {h₀ : Heap} {L D : Addr} {m : Str → Option Value} {own rest : List (Addr × Obj)} {its : Array Value} {n : Nat} {x : Value} {o : Obj} {Q E : Value → Shared → Prop}
    (F : Fr h₀ L s.heap m) (N : News h₀ L s.heap (((D, listOf its n) :: rest) ++ own)) (ho : TbOff own ((D, o) :: rest)) (hr : ∀ p ∈ rest, p.1 ≠ D)
    (h : ∀ h', Fr h₀ L h' m → News h₀ L h' (((D, listOf (its.push x) (n + 1)) :: rest) ++ own) → Q .none { s with heap := h' }) (hsz : its.size ≤ sizeLine) : wpAny (model prog w) A (call (.builtin "list.append") [.ref D, x]) Q E s := by
  refine append_K F N (Upd.head ?_) h hsz
  intro q hq
  rcases List.mem_append.mp hq with hq | hq
  · exact hr q hq
  · exact ho q hq _ (.head _)
theorem filt_size {ts : List Addr} {P : Nat → Bool} {t k0 : Nat} {ks : List Nat} (h : ks.length ≤ 5) : (tyV ts (((k0 :: ks).take t).filter P)).toArray.size ≤ sizeLine := by
  have h1 := List.length_filter_le P ((k0 :: ks).take t)
  have h2 := List.length_take_le' t (k0 :: ks)
  simp only [List.size_toArray, List.length_map, List.length_cons] at *
  unfold sizeLine
  omega
/-- a loop over a list beside the ledger that keeps one name of its own and its target -/
theorem loopP {l : Addr} {vs : List Value} {m₀ : Str → Option Value} {news : List (Addr × Obj)} {z : Str} (val : Nat → Value)
    (hh : A.handled = none) (hls : s.heap.IsList l vs.toArray) (hLl : env.locals ≠ l) (F : Fr h₀ env.locals s.heap (fun y => if y = z then some (val 0) else m₀ y)) (N : News h₀ env.locals s.heap news) (off : ∀ q ∈ news, q.1 ≠ l)
    (turn : ∀ i v (u : Str → Option Value) h tk own, vs[i]? = some v → TbOff own news → Fr h₀ env.locals h (fun y => if y = x then some v else if y = z then some (val i) else if y = x then u y else m₀ y) → News h₀ env.locals h (news ++ own) →
      wpAny (model prog w) A (execs body env) (TbPost h₀ env.locals (fun m' nx => nx = news ∧ ∃ u : Str → Option Value, m' = fun y => if y = z then some (val (i + 1)) else if y = x then u y else m₀ y) own { s with heap := h, toks := tk } Q) E { s with heap := h, toks := tk })
    (done : ∀ (u : Str → Option Value) h tk, Fr h₀ env.locals h (fun y => if y = z then some (val vs.length) else if y = x then u y else m₀ y) → News h₀ env.locals h news → Q .next { s with heap := h, toks := tk }) :
    wpAny (model prog w) A (pyIter (.ref l)) (fun it s₂ => LoopAtV prog w A h₀ env x body Q E it s₂) E s := by
  refine loopL (fun i m nx => nx = news ∧ ∃ u : Str → Option Value, m = fun y => if y = z then some (val i) else if y = x then u y else m₀ y) hh hls hLl F N ⟨rfl, m₀, by funext y; simp⟩ (by rintro i m nx ⟨rfl, _⟩; exact off) ?_ ?_
  · rintro i v m₁ nx h tk own hv ho ⟨rfl, u, rfl⟩ F₁ N₁
    exact turn i v u h tk own hv ho F₁ N₁
  · rintro m₁ nx h tk ⟨rfl, u, rfl⟩ F₁ N₁
    exact done u h tk F₁ N₁
end
theorem off_next {g h : Heap} {L : Addr} {news : List (Addr × Obj)} (N : News g L h news) : ∀ q ∈ news, q.1 ≠ h.objs.size + 1 := fun q hq => Nat.ne_of_lt (Nat.lt_succ_of_lt (Heap.lt_size (N q hq).1))
theorem loc_next {g h : Heap} {L : Addr} {m : Str → Option Value} (F : Fr g L h m) : L ≠ h.objs.size + 1 := Nat.ne_of_lt (Nat.lt_succ_of_lt F.ns.lt)
theorem slice1 {ts : List Addr} {f0 : Nat} {fr : List Nat} : slicePick (tyV ts (f0 :: fr)).toArray (some 1) none none = (tyV ts fr).toArray := by
  rw [show (1 : Int) = ((1 : Nat) : Int) from rfl, slicePick_from']
  rfl
theorem sliceList {g h : Heap} {L l : Addr} {ts : List Addr} {f0 : Nat} {fr : List Nat} {news : List (Addr × Obj)} (N : News g L h ((l, { cls := .type "list", data := .seq (slicePick (tyV ts (f0 :: fr)).toArray (some 1) none none) }) :: news)) : h.IsList l (tyV ts fr).toArray := by
  rw [slice1] at N
  exact ⟨_, (N _ (.head _)).1, rfl, _, rfl⟩
theorem pick_take {chs : List (List Nat)} {f0 k t : Nat} {fr : List Nat} (h : fr[t]? = some k) : pick chs f0 (fr.take (t + 1)) = if sub chs k (pick chs f0 (fr.take t)) then k else pick chs f0 (fr.take t) := by
  rw [List.take_add_one, h, pick, List.foldl_append]
  rfl
theorem pick_mem {chs : List (List Nat)} {P : Nat → Prop} : ∀ {fr : List Nat} {f0 : Nat}, P f0 → (∀ k ∈ fr, P k) → P (pick chs f0 fr)
  | [], f0, h, _ => h
  | k :: fr, f0, h, hk => by
    show P (pick chs (if sub chs k f0 then k else f0) fr)
    refine pick_mem ?_ fun q hq => hk q (.tail _ hq)
    split
    · exact hk k (.head _)
    · exact h
theorem tbEnd_P {h₀ : Heap} {x z : Str} {L : Addr} {own news all : List (Addr × Obj)} {m₀ : Str → Option Value} {u : Str → Option Value} {s₁ : Shared} {h' : Heap} {tk : Nat} {v vb : Value} (hzx : z ≠ x)
    (F : Fr h₀ L h' (fun y => if y = x then some v else if y = z then some vb else if y = x then u y else m₀ y)) (N : News h₀ L h' all) (hn : ∀ p ∈ news ++ own, p ∈ all) (hs : TbOff own news) {vb' : Value} (e : vb = vb') :
    TbEnd h₀ L (fun m' nx => nx = news ∧ ∃ u : Str → Option Value, m' = fun y => if y = z then some vb' else if y = x then u y else m₀ y) own s₁ { s₁ with heap := h', toks := tk } := by
  subst e
  refine tbEnd_of F N news (fun p h => hn p (List.mem_append.mpr (.inl h))) (fun p h => hn p (List.mem_append.mpr (.inr h))) hs ⟨rfl, fun _ => some v, ?_⟩
  funext y
  by_cases q : y = x
  · subst q
    simp [Ne.symm hzx]
  · simp [q]
theorem tbEnd_P' {h₀ : Heap} {x z : Str} {L : Addr} {own news all : List (Addr × Obj)} {m₀ : Str → Option Value} {u : Str → Option Value} {s₁ : Shared} {h' : Heap} {tk : Nat} {v vb vc : Value}
    (F : Fr h₀ L h' (fun y => if y = z then some vc else if y = x then some v else if y = z then some vb else if y = x then u y else m₀ y)) (N : News h₀ L h' all) (hn : ∀ p ∈ news ++ own, p ∈ all) (hs : TbOff own news) {vb' : Value} (e : vc = vb') :
    TbEnd h₀ L (fun m' nx => nx = news ∧ ∃ u : Str → Option Value, m' = fun y => if y = z then some vb' else if y = x then u y else m₀ y) own s₁ { s₁ with heap := h', toks := tk } := by
  subst e
  refine tbEnd_of F N news (fun p h => hn p (List.mem_append.mpr (.inl h))) (fun p h => hn p (List.mem_append.mpr (.inr h))) hs ⟨rfl, fun _ => some v, ?_⟩
  funext y
  by_cases q : y = x
  · simp [q]
  · by_cases q' : y = z
    · simp [q']
    · simp [q, q']
end Mine
end
local macro_rules | `(tactic| walk_at "truthy ref") => `(tactic| (k_here; k_dflt (refine' Mine.truthy_b false ?h ?e ?f ?_; (case h => first | (refine' News.isList ?g ?i; (case g => k_asm); (case i => k_mem)) | (refine' Mine.isList_base ?g ?i; (case g => k_asm); (case i => tb_rel))); (case e => exact rfl); (case f => (refine Mine.fit63 ?_; simp only [List.size_toArray, List.length_map, List.length_cons]; omega)); k_whole)))
local macro_rules | `(tactic| walk_at "exec For Name Name cons nil") => `(tactic| (k_here; (rename Fr _ _ _ _ => lF'); (with_unfolding_all refine' For_invVF lF' ?k1 ?k2 ?_; (case k1 => exact rfl); (case k2 => exact rfl); k_whole)))
local macro_rules | `(tactic| walk_at "exec For Name Subscript cons nil") => `(tactic| (k_here; (rename Fr _ _ _ _ => lF'); (with_unfolding_all refine' For_invVF lF' ?k1 ?k2 ?_; (case k1 => exact rfl); (case k2 => exact rfl); k_whole)))
namespace Mine
set_option maxRecDepth 100000
set_option maxHeartbeats 8000000
variable {w : World} {p : Program} {loose : List Str} {mean : ExcName → Option Value} {mg mb : Str → Option Value}
theorem gt_inst {chs : List (List Nat)} {cs ts : List Addr} {i k0 : Nat} {ks : List Nat} {x ub : Addr} {nm : Str} {b : Bool} (hi : i < chs.length) (hks : ∀ k ∈ k0 :: ks, k < chs.length) (hlen : ks.length ≤ 5) (hmem : ∀ i k, k ∈ chs.getD i [] → k < chs.length) (hs : ∀ i, i < chs.length → sub chs i i = true) :
    Gets w p loose mean mg mb 25 x (ts.getD i 0) b (fun g => Wd (hAt g) chs cs ∧ TsAt (hAt g) chs cs ts ∧ TvAt (hAt g) x nm (tyL ts (k0 :: ks)) ub) nm ((best chs ((k0 :: ks).filter fun k => sub chs i k)).map fun k => ts.getD k 0) := by
  intro dp un gd cn cs' a ccd cl outer A₀ base h₀ L m s Q E f c' ce td fo oc oce its n B F X N T hk hfo hrep hsz hW hd hu hret
  obtain ⟨foc, fod, ffd, fsl, rfl⟩ := hfo
  refine wpAny_call ?_
  (first | (k_dflt (refine' Mine.enterCS (binds := [(Str.ofString "tvar", .ref x), (Str.ofString "typ", .ref (ts.getD i 0)), (Str.ofString "report_incompatible_typevar_value", .ref f), (Str.ofString "skip_unsatisfied", .bool b)]) ?k1 ?k2 ?k3 ?k4 ?k5 ?kA ?kF ?kK ?k6 ?k7 ?k8 ?k9 ?kB ?kD ?_ ?c2 ?c3 ?c4; (case kA => exact rfl); (case kF => exact rfl); (case kK => first | exact rfl | assumption); (case k1 => k_asm); (case k2 => k_asm); (case k3 => k_asm); (case k4 => k_asm); (case k5 => k_asm); (case k6 => k_is); (case k7 => k_is); (case k8 => k_room); (case k9 => first | exact BindsTo.of_eq rfl | exact binds_K (by k_in) rfl (by k_is) rfl rfl rfl); (case kB => exact rfl); (case kD => decide +kernel); (case c2 => exact rfl); (case c3 => exact rfl); (case c4 => exact rfl); k_whole)) | fail "enter")
  intro g L₁ h₁ tk₁ cells FG F₁ N₁ Y₁ B₁ X₁ T₁ G l₁ hL
  (try k_lt l₁)
  k_cells Y₁
  (try simp only [List.cons_append, List.nil_append] at N₁)
  (try dsimp only)
  (try k_unmd)
  k_fold
  have hlt := Nat.le_trans hL (Nat.le_of_lt F₁.ns.lt)
  obtain ⟨hw, hts, hx⟩ := hW _ G
  have hx' := hx
  obtain ⟨dx, ix, dix, vlx, gx1, kx1, gx2, kx2, gx3, kx3, gx4, kx4, gx5, kx5, gx6, kx6, gx7, kx7, tx1, tx2, tx3, tx4, nx1, nx2, nx3, rx, ex1, ex2, ex3, ex4, ex5⟩ := hx'
  have hy' := hts i hi
  obtain ⟨dy, ty, py1, qy1, py2, qy2, ny1, ny2, ey1, ey2, ey3⟩ := hy'
  repeat' ((fail_if_success (with_reducible show wpAny _ _ (pyIter _) _ _ _)); (first | (k_unfold; (try dsimp only)) | (k_end; wrow_close) | walk1 | (dsimp only; walk1) | (leave1; walk_say "STEP leave1"; try dsimp only)))
  rename Fr _ _ _ _ => F'
  rename News _ _ _ _ => N'
  with_unfolding_all refine loopF (fun t => (tyV ts (((k0 :: ks).take t).filter fun k => sub chs i k)).toArray) rfl (isList_of ex5) F' N' rfl ?_ ?_
  · intro t v h tk own n1 hv ho F₁ N₁
    obtain ⟨k, hk, rfl⟩ : ∃ k, (k0 :: ks)[t]? = some k ∧ v = .ref (ts.getD k 0) := by
      simp only [List.map_map, List.getElem?_map, Option.map_eq_some_iff] at hv
      obtain ⟨k, e1, rfl⟩ := hv
      exact ⟨k, e1, rfl⟩
    have hk' := hks k (List.mem_of_getElem? hk)
    have hty := hts k hk'
    have hti := hts i hi
    clear F' N'
    repeat' ((fail_if_success (with_reducible show wpAny _ _ (call (Value.builtin "list.append") _ _) _ _ _)); (first | (k_unfold; (try dsimp only)) | (k_end; wrow_close) | walk1 | (dsimp only; walk1) | (leave1; walk_say "STEP leave1"; try dsimp only)))
    · rename Fr _ _ _ _ => F'
      rename News _ _ _ _ => N'
      k_dflt (refine append_F F' N' ho (by k_all) ?_ (filt_size hlen))
      clear F' N'
      intro h' F' N'
      k_steps
      refine tbEnd_F F' N' (fun p h => h) ho (by intro z hz; exact if_neg hz) ?_
      rw [List.take_add_one, hk, List.filter_append]
      simp [*]
    · rename Fr _ _ _ _ => F'
      rename News _ _ _ _ => N'
      refine tbEnd_F F' N' (fun p h => h) ho (by intro z hz; exact if_neg hz) ?_
      rw [List.take_add_one, hk, List.filter_append]
      simp [*]
  · intro u h tk n1 F₁ N₁
    clear F' N'
    rw [List.length_map, List.length_map, List.take_length] at N₁
    generalize hfl : (k0 :: ks).filter (fun k => sub chs i k) = fl at N₁ ⊢
    cases fl with
    | nil =>
      k_steps
      all_goals try (have hR := @hrep (by assumption); k_steps)
      · refine hret _ its n [] _ _ (by assumption) (news_drop1 (news_drop1 (by assumption))) (gsub_trans G (Fr.keep (by assumption))) (by simp) ?_
        rw [hfl, show b = true by assumption]
        exact ⟨rfl, rfl, rfl⟩
      · refine hret _ _ (n + 1) [_] _ _ (by assumption) (by assumption) (gsub_trans G (Fr.keep (by assumption))) ?_ ?_
        · intro q hq
          rw [List.mem_singleton.mp hq]
          exact tp_le (by assumption) (by assumption) hL
        · rw [hfl, show b = false by assumption]
          exact ⟨rfl, _, _, rfl, rfl⟩
    | cons f0 fr =>
      have hfr : fr.length ≤ 5 := by
        have h1 := List.length_filter_le (fun k => sub chs i k) (k0 :: ks)
        rw [hfl] at h1
        simp only [List.length_cons] at h1
        omega
      repeat' ((fail_if_success (with_reducible show wpAny _ _ (pyIter _) _ _ _)); (first | (k_unfold; (try dsimp only)) | (k_end; wrow_close) | walk1 | (dsimp only; walk1) | (leave1; walk_say "STEP leave1"; try dsimp only)))
      rename Fr _ _ _ _ => F2
      rename News _ _ _ _ => N2
      dsimp only at F2 N2
      have hf0 : f0 < chs.length := hks f0 ((List.mem_filter.mp (hfl ▸ List.mem_cons_self : f0 ∈ (k0 :: ks).filter _)).1)
      have hfk : ∀ k ∈ fr, k < chs.length := fun k hk => hks k ((List.mem_filter.mp (hfl ▸ List.mem_cons_of_mem _ hk : k ∈ (k0 :: ks).filter _)).1)
      with_unfolding_all refine loopP (vs := tyV ts fr) (z := Str.ofString "best") (fun t => .ref (ts.getD (pick chs f0 (fr.take t)) 0)) rfl (sliceList N2) (loc_next (by assumption)) F2 (news_drop1 N2) (off_next (by assumption)) ?_ ?_
      · intro t v u' h tk own hv ho F₁ N₁
        obtain ⟨k, hk, rfl⟩ : ∃ k, fr[t]? = some k ∧ v = .ref (ts.getD k 0) := by
          simp only [List.getElem?_map, Option.map_eq_some_iff] at hv
          obtain ⟨k, e1, rfl⟩ := hv
          exact ⟨k, e1, rfl⟩
        have hk' := hfk k (List.mem_of_getElem? hk)
        have hb' : pick chs f0 (fr.take t) < chs.length := pick_mem (P := (· < chs.length)) hf0 fun q hq => hfk q (List.mem_of_mem_take hq)
        have htk := hts k hk'
        have htb := hts _ hb'
        have hp := pick_take (chs := chs) (f0 := f0) hk
        clear F2 N2
        generalize pick chs f0 (fr.take t) = bb at *
        k_steps

        · rename Fr _ _ _ _ => F3
          rename News _ _ _ _ => N3
          refine tbEnd_P' F3 N3 (fun p h => h) ho ?_
          rw [hp, if_pos (by assumption)]
        · rename Fr _ _ _ _ => F3
          rename News _ _ _ _ => N3
          refine tbEnd_P (by decide) F3 N3 (fun p h => h) ho ?_
          rw [hp, if_neg (by simp [*])]
      · intro u' h tk F₁ N₁
        clear F2 N2
        k_steps

        refine hret _ its n [] _ _ (by assumption) (news_drop1 (news_drop1 (by assumption))) (gsub_trans G (Fr.keep (by assumption))) (by simp) ?_
        rw [hfl]
        refine ⟨?_, rfl, rfl⟩
        rw [List.length_map, List.take_length]
end Mine

section
open PySem.Spec
namespace Mine
set_option maxRecDepth 100000
set_option maxHeartbeats 4000000
/-! ## comprehensions whose turns leave nothing behind -/
section
variable {prog : Program} {w : World} {A : Around} {E : Value → Shared → Prop} {s : Shared} {h₀ : Heap} {L : Addr} {m : Str → Option Value} {env : Env} {news : List (Addr × Obj)}
def Pure1 (h₀ : Heap) (L : Addr) (m : Str → Option Value) (s₁ : Shared) (all : List (Addr × Obj)) (y v : Value) (s₂ : Shared) : Prop :=
  v = y ∧ ∃ h' tk, s₂ = { s₁ with heap := h', toks := tk } ∧ Fr h₀ L h' m ∧ News h₀ L h' all
theorem Pure1.intro {s₁ : Shared} {all : List (Addr × Obj)} {y v : Value} {h' : Heap} {tk : Nat} (e : v = y) (F : Fr h₀ L h' m) (N : News h₀ L h' all) : Pure1 h₀ L m s₁ all y v { s₁ with heap := h', toks := tk } := ⟨e, h', tk, rfl, F, N⟩
def SrcOK (h₀ : Heap) (news : List (Addr × Obj)) (xv : Value) (h : Heap) (n : Nat) (P : Nat → Value → Prop) : Prop :=
  (∃ ax its, xv = .ref ax ∧ LCg.SrcAt h₀ ax its news ∧ n = its.size ∧ P = fun i v => its[i]? = some v) ∨
  (∃ r a b t u v, xv = .ref r ∧ IsRange h r a b 1 t u v ∧ Builtin.Range.small a b 1 = true ∧ Builtin.Range.rangeSize a b 1 = ((n : Nat) : Int) ∧ P = fun i v => ∃ t, v = .int (a + (i : Int)) t)
theorem SrcOK.base {h : Heap} {ax : Addr} {its : Array Value} (hl : h₀.IsList ax its) : SrcOK h₀ news (.ref ax) h its.size (fun i v => its[i]? = some v) := .inl ⟨ax, its, rfl, .inl hl, rfl, rfl⟩
theorem SrcOK.led {h : Heap} {ax : Addr} {its : Array Value} {k : Nat} (hm : (ax, listOf its k) ∈ news) : SrcOK h₀ news (.ref ax) h its.size (fun i v => its[i]? = some v) := .inl ⟨ax, its, rfl, .inr ⟨_, hm, rfl, _, rfl⟩, rfl, rfl⟩
theorem SrcOK.range {h : Heap} {r : Addr} {a b : Int} {t u v : Tok} {n : Nat} (hr : IsRange h r a b 1 t u v) (h1 : Builtin.Range.small a b 1 = true) (h2 : Builtin.Range.rangeSize a b 1 = ((n : Nat) : Int)) : SrcOK h₀ news (.ref r) h n (fun i v => ∃ t, v = .int (a + (i : Int)) t) :=
  .inr ⟨r, a, b, t, u, v, rfl, hr, h1, h2, rfl⟩
theorem comp_U0 {elt iter : Expr} {x : Str} {px : Pos} {scope : Scope} {cl : List (Str × Addr)} {pos : Pos} {Q : Value → Shared → Prop} (f : Nat → Value) (F₀ : Fr h₀ L s.heap m) (_N₀ : News h₀ L s.heap news)
    (hclos : closureFor scope env = pure cl) (hcell : ∀ y ∈ scope.names, y.2 ≠ .cell) (hkind : scope.kind = .function)
    (hnames : ∀ y ∈ scope.names, y.2 = .local → scope.names.lookup y.1 = some .local) (hx : scope.names.lookup x = some .local)
    (hmain : wpAny (model prog w) A (eval iter env) (fun xv s₁ => A.handled = none ∧ Fr h₀ L s₁.heap m ∧ News h₀ L s₁.heap news ∧ ∃ n P, SrcOK h₀ news xv s₁.heap n P ∧ n ≤ sizeLine ∧
      (∀ i v I oI C oC D m₂ ys h tk (E' : Value → Shared → Prop), i < n → P i v → LCg.NsObj oC m₂ → m₂ x = some v → Fr h₀ L h m → News h₀ L h ((I, oI) :: (C, oC) :: (D, LCg.lst ys) :: news) →
        wpAny (model prog w) A (eval elt (compEnvC scope cl C env)) (Pure1 h₀ L m { s₁ with heap := h, toks := tk } ((I, oI) :: (C, oC) :: (D, LCg.lst ys) :: news) (f i)) E' { s₁ with heap := h, toks := tk }) ∧
      (∀ D h tk, Fr h₀ L h m → News h₀ L h ((D, LCg.lst ((List.range n).map f)) :: news) → LCg.Off1 D news → Q (.ref D) { s₁ with heap := h, toks := tk })) E s)
    (hs : ∀ x, foldedSetIterable iter env x = pure x := by intro _; rfl) :
    wpAny (model prog w) A (eval (.ListComp elt [⟨.Name x px, iter, [], 0⟩] scope pos) env) Q E s := by
  refine LCg.ListComp_U F₀ hclos hcell hkind hnames hx (wpAny_mono hmain (fun xv s₁ q => ?_) fun _ _ e => e) hs
  obtain ⟨hh, F, N, n, P, src, hsz, turn, fin⟩ := q
  have key : ∀ (S : List (Addr × Obj) → Prop) (g : Heap), S news → LCg.CompRest prog w A h₀ L m env elt x scope cl { s₁ with heap := g } S P (LCg.FinE h₀ L m { s₁ with heap := g } Q) n 0 [] news := by
    intro S g hS
    refine rest_inv (fun i ys nx => nx = news ∧ ys = (List.range i).map f) ⟨rfl, rfl⟩ ?_ ?_
    · rintro i v I oI C oC D m₂ ys nx h tk E' hi hv ⟨rfl, rfl⟩ hC hx F N off ne
      refine wpAny_mono (turn i v I oI C oC D m₂ _ h tk E' hi hv hC hx F N) (fun y s₂ q => ?_) fun _ _ e => e
      obtain ⟨rfl, h', tk', rfl, F', N'⟩ := q
      exact LCg.CompEnd.intro F' N' nx (fun p h => h) off hS ⟨rfl, by rw [List.range_succ, List.map_append]; rfl⟩
    · rintro ys nx ⟨rfl, rfl⟩ D h tk F N off
      exact fin D h tk F N off
  rcases src with ⟨ax, its, rfl, S, rfl, rfl⟩ | ⟨r, a, b, t, u, v, rfl, hr, h1, h2, rfl⟩
  · exact .inl ⟨ax, its, news, rfl, hh, F, N, S, hsz, fun _ ⟨g, e⟩ => e ▸ key _ g S⟩
  · exact .inr ⟨r, a, b, t, u, v, n, news, rfl, hh, F, N, hr, h1, h2, hsz, fun _ ⟨g, e⟩ => e ▸ key _ g trivial⟩
theorem comp_U1 {ct elt iter : Expr} {x : Str} {px : Pos} {scope : Scope} {cl : List (Str × Addr)} {pos : Pos} {Q : Value → Shared → Prop} (t : Nat → Bool) (f : Nat → Value) (F₀ : Fr h₀ L s.heap m) (_N₀ : News h₀ L s.heap news)
    (hclos : closureFor scope env = pure cl) (hcell : ∀ y ∈ scope.names, y.2 ≠ .cell) (hkind : scope.kind = .function)
    (hnames : ∀ y ∈ scope.names, y.2 = .local → scope.names.lookup y.1 = some .local) (hx : scope.names.lookup x = some .local)
    (hmain : wpAny (model prog w) A (eval iter env) (fun xv s₁ => A.handled = none ∧ Fr h₀ L s₁.heap m ∧ News h₀ L s₁.heap news ∧ ∃ n P, SrcOK h₀ news xv s₁.heap n P ∧ n ≤ sizeLine ∧
      (∀ i v I oI C oC D m₂ ys h tk (E' : Value → Shared → Prop), i < n → P i v → LCg.NsObj oC m₂ → m₂ x = some v → Fr h₀ L h m → News h₀ L h ((I, oI) :: (C, oC) :: (D, LCg.lst ys) :: news) →
        wpAny (model prog w) A (isTrue ct (compEnvC scope cl C env) (eval ct (compEnvC scope cl C env))) (fun ok s' => if ok = true then
          wpAny (model prog w) A (eval elt (compEnvC scope cl C env)) (fun y s'' => t i = true ∧ Pure1 h₀ L m { s₁ with heap := h, toks := tk } ((I, oI) :: (C, oC) :: (D, LCg.lst ys) :: news) (f i) y s'') E' s'
          else t i = false ∧ Pure1 h₀ L m { s₁ with heap := h, toks := tk } ((I, oI) :: (C, oC) :: (D, LCg.lst ys) :: news) .none .none s') E' { s₁ with heap := h, toks := tk }) ∧
      (∀ D h tk, Fr h₀ L h m → News h₀ L h ((D, LCg.lst (((List.range n).filter t).map f)) :: news) → LCg.Off1 D news → Q (.ref D) { s₁ with heap := h, toks := tk })) E s)
    (hs : ∀ x, foldedSetIterable iter env x = pure x := by intro _; rfl) :
    wpAny (model prog w) A (eval (.ListComp elt [⟨.Name x px, iter, [ct], 0⟩] scope pos) env) Q E s := by
  refine LCt.ListComp_T F₀ hclos hcell hkind hnames hx (wpAny_mono hmain (fun xv s₁ q => ?_) fun _ _ e => e) hs
  obtain ⟨hh, F, N, n, P, src, hsz, turn, fin⟩ := q
  have key : ∀ (S : List (Addr × Obj) → Prop) (g : Heap), S news → LCt.CompRestT prog w A h₀ L m env ct elt x scope cl { s₁ with heap := g } S P (LCg.FinE h₀ L m { s₁ with heap := g } Q) n 0 [] news := by
    intro S g hS
    refine restT_inv (fun i ys nx => nx = news ∧ ys = ((List.range i).filter t).map f) ⟨rfl, rfl⟩ ?_ ?_
    · rintro i v I oI C oC D m₂ ys nx h tk E' hi hv ⟨rfl, rfl⟩ hC hx F N off ne
      refine wpAny_mono (turn i v I oI C oC D m₂ _ h tk E' hi hv hC hx F N) (fun ok s₂ q => ?_) fun _ _ e => e
      cases ok with
      | true =>
        simp only [if_true] at q ⊢
        refine wpAny_mono q (fun y s₃ q => ?_) fun _ _ e => e
        obtain ⟨ht, rfl, h', tk', rfl, F', N'⟩ := q
        exact LCg.CompEnd.intro F' N' nx (fun p h => h) off hS ⟨rfl, by rw [List.range_succ, List.filter_append, List.map_append]; simp [ht]⟩
      | false =>
        simp only [Bool.false_eq_true, if_false] at q ⊢
        obtain ⟨ht, -, h', tk', rfl, F', N'⟩ := q
        exact LCg.CompEnd.intro F' N' nx (fun p h => h) off hS ⟨rfl, by rw [List.range_succ, List.filter_append, List.map_append]; simp [ht]⟩
    · rintro ys nx ⟨rfl, rfl⟩ D h tk F N off
      exact fin D h tk F N off
  rcases src with ⟨ax, its, rfl, S, rfl, rfl⟩ | ⟨r, a, b, t, u, v, rfl, hr, h1, h2, rfl⟩
  · exact .inl ⟨ax, its, news, rfl, hh, F, N, S, hsz, fun _ ⟨g, e⟩ => e ▸ key _ g S⟩
  · exact .inr ⟨r, a, b, t, u, v, n, news, rfl, hh, F, N, hr, h1, h2, hsz, fun _ ⟨g, e⟩ => e ▸ key _ g trivial⟩
theorem comp_K0 {elt iter : Expr} {x : Str} {px : Pos} {scope : Scope} {cl : List (Str × Addr)} {pos : Pos} {Q : Value → Shared → Prop} (f : Nat → Value) (_F₀ : Fr h₀ L s.heap m) (_N₀ : News h₀ L s.heap news)
    (hclos : closureFor scope env = pure cl) (hcf : ∀ n, cellsFrom n scope.names cl = (x, n) :: cl) (hpc : ∀ h, pushCells h scope.names = h.push (cellO none)) (hkind : scope.kind = .function)
    (hnames : ∀ y ∈ scope.names, y.2 = .local → scope.names.lookup y.1 = some .local) (hxk : ∀ C K, (compEnvC scope ((x, K) :: cl) C env).kindOf x = some .cell)
    (hmain : wpAny (model prog w) A (eval iter env) (fun xv s₁ => A.handled = none ∧ Fr h₀ L s₁.heap m ∧ News h₀ L s₁.heap news ∧ ∃ ax its, xv = .ref ax ∧ LCg.SrcAt h₀ ax its news ∧ its.size ≤ sizeLine ∧
      (∀ i v I oI C oC K oK D ys h tk (E' : Value → Shared → Prop), its[i]? = some v → oK.data = .cell (some v) → Fr h₀ L h m → News h₀ L h ((I, oI) :: (C, oC) :: (K, oK) :: (D, LCg.lst ys) :: news) →
        wpAny (model prog w) A (eval elt (compEnvC scope ((x, K) :: cl) C env)) (Pure1 h₀ L m { s₁ with heap := h, toks := tk } ((I, oI) :: (C, oC) :: (K, oK) :: (D, LCg.lst ys) :: news) (f i)) E' { s₁ with heap := h, toks := tk }) ∧
      (∀ D h tk, Fr h₀ L h m → News h₀ L h ((D, LCg.lst ((List.range its.size).map f)) :: news) → (∀ p ∈ news, p.1 ≠ D) → Q (.ref D) { s₁ with heap := h, toks := tk })) E s)
    (hs : ∀ x, foldedSetIterable iter env x = pure x := by intro _; rfl) :
    wpAny (model prog w) A (eval (.ListComp elt [⟨.Name x px, iter, [], 0⟩] scope pos) env) Q E s := by
  refine ListComp_K (h₀ := h₀) (L := L) (m := m) (fun i ys nx => nx = news ∧ ys = (List.range i).map f) hclos hcf hpc hkind hnames hxk (wpAny_mono hmain (fun xv s₁ q => ?_) fun _ _ e => e) hs
  obtain ⟨hh, F, N, ax, its, rfl, S, hsz, turn, fin⟩ := q
  refine ⟨ax, its, news, rfl, hh, F, N, S, hsz, ⟨rfl, rfl⟩, ?_, ?_⟩
  · rintro g i v ys nx I oI C oC K oK D h tk E' hv hoK ⟨rfl, rfl⟩ S' F N off
    rw [List.forIn_nil]
    refine wpAny_pure ?_
    rw [if_pos rfl]
    refine wpAny_mono (turn i v I oI C oC K oK D _ h tk E' hv hoK F N) (fun y s₂ q => ?_) fun _ _ e => e
    obtain ⟨rfl, h', tk', rfl, F', N'⟩ := q
    exact KEnd.intro F' N' nx (fun p h => h) off S' ⟨rfl, by rw [List.range_succ, List.map_append]; rfl⟩
  · rintro D ys nx h tk ⟨rfl, rfl⟩ F N off
    exact fin D h tk F N off
theorem comp_K1 {ct elt iter : Expr} {x : Str} {px : Pos} {scope : Scope} {cl : List (Str × Addr)} {pos : Pos} {Q : Value → Shared → Prop} (t : Nat → Bool) (f : Nat → Value) (_F₀ : Fr h₀ L s.heap m) (_N₀ : News h₀ L s.heap news)
    (hclos : closureFor scope env = pure cl) (hcf : ∀ n, cellsFrom n scope.names cl = (x, n) :: cl) (hpc : ∀ h, pushCells h scope.names = h.push (cellO none)) (hkind : scope.kind = .function)
    (hnames : ∀ y ∈ scope.names, y.2 = .local → scope.names.lookup y.1 = some .local) (hxk : ∀ C K, (compEnvC scope ((x, K) :: cl) C env).kindOf x = some .cell)
    (hmain : wpAny (model prog w) A (eval iter env) (fun xv s₁ => A.handled = none ∧ Fr h₀ L s₁.heap m ∧ News h₀ L s₁.heap news ∧ ∃ ax its, xv = .ref ax ∧ LCg.SrcAt h₀ ax its news ∧ its.size ≤ sizeLine ∧
      (∀ i v I oI C oC K oK D ys h tk (E' : Value → Shared → Prop), its[i]? = some v → oK.data = .cell (some v) → Fr h₀ L h m → News h₀ L h ((I, oI) :: (C, oC) :: (K, oK) :: (D, LCg.lst ys) :: news) →
        wpAny (model prog w) A (isTrue ct (compEnvC scope ((x, K) :: cl) C env) (eval ct (compEnvC scope ((x, K) :: cl) C env))) (fun ok s' => if ok = true then
          wpAny (model prog w) A (eval elt (compEnvC scope ((x, K) :: cl) C env)) (fun y s'' => t i = true ∧ Pure1 h₀ L m { s₁ with heap := h, toks := tk } ((I, oI) :: (C, oC) :: (K, oK) :: (D, LCg.lst ys) :: news) (f i) y s'') E' s'
          else t i = false ∧ Pure1 h₀ L m { s₁ with heap := h, toks := tk } ((I, oI) :: (C, oC) :: (K, oK) :: (D, LCg.lst ys) :: news) .none .none s') E' { s₁ with heap := h, toks := tk }) ∧
      (∀ D h tk, Fr h₀ L h m → News h₀ L h ((D, LCg.lst (((List.range its.size).filter t).map f)) :: news) → (∀ p ∈ news, p.1 ≠ D) → Q (.ref D) { s₁ with heap := h, toks := tk })) E s)
    (hs : ∀ x, foldedSetIterable iter env x = pure x := by intro _; rfl) :
    wpAny (model prog w) A (eval (.ListComp elt [⟨.Name x px, iter, [ct], 0⟩] scope pos) env) Q E s := by
  refine ListComp_K (h₀ := h₀) (L := L) (m := m) (fun i ys nx => nx = news ∧ ys = ((List.range i).filter t).map f) hclos hcf hpc hkind hnames hxk (wpAny_mono hmain (fun xv s₁ q => ?_) fun _ _ e => e) hs
  obtain ⟨hh, F, N, ax, its, rfl, S, hsz, turn, fin⟩ := q
  refine ⟨ax, its, news, rfl, hh, F, N, S, hsz, ⟨rfl, rfl⟩, ?_, ?_⟩
  · rintro g i v ys nx I oI C oC K oK D h tk E' hv hoK ⟨rfl, rfl⟩ S' F N off
    simp only [List.forIn_cons, List.forIn_nil, if_true, bind_assoc]
    refine wpAny_bind (wpAny_mono (turn i v I oI C oC K oK D _ h tk E' hv hoK F N) (fun ok s₂ q => ?_) fun _ _ e => e)
    refine wpAny_pure ?_
    cases ok with
    | true =>
      simp only [if_true] at q ⊢
      refine wpAny_mono q (fun y s₃ q => ?_) fun _ _ e => e
      obtain ⟨ht, rfl, h', tk', rfl, F', N'⟩ := q
      exact KEnd.intro F' N' nx (fun p h => h) off S' ⟨rfl, by rw [List.range_succ, List.filter_append, List.map_append]; simp [ht]⟩
    | false =>
      simp only [Bool.false_eq_true, if_false] at q ⊢
      obtain ⟨ht, -, h', tk', rfl, F', N'⟩ := q
      exact KEnd.intro F' N' nx (fun p h => h) off S' ⟨rfl, by rw [List.range_succ, List.filter_append, List.map_append]; simp [ht]⟩
  · rintro D ys nx h tk ⟨rfl, rfl⟩ F N off
    exact fin D h tk F N off
end
end Mine
namespace Mine
theorem map_getD {α : Type} (l : List Nat) (g : Nat → α) (d : Nat) : (List.range l.length).map (fun i => g (l.getD i d)) = l.map g := by
  apply List.ext_getElem
  · simp
  · intro i h1 h2
    simp only [List.length_map, List.length_range] at h1
    simp [List.getD_eq_getElem?_getD, List.getElem?_eq_getElem h1]
theorem filter_getD (l : List Nat) (t : Nat → Bool) (d : Nat) : ((List.range l.length).filter fun i => t (l.getD i d)).map (fun i => l.getD i d) = l.filter t := by
  have h : (List.range l.length).map (fun i => l.getD i d) = l := by simpa using map_getD l id d
  conv => rhs; rw [← h]
  rw [List.filter_map]
  rfl
theorem any_getD {n : Nat} {l : List Nat} (h : n = l.length) (g : Nat → Bool) : ((List.range n).map fun i => g (l.getD i 0)).any id = l.any g := by
  subst h
  rw [map_getD l g]
  simp
theorem all_getD {n : Nat} {l : List Nat} (h : n = l.length) (g : Nat → Bool) : ((List.range n).map fun i => g (l.getD i 0)).all id = l.all g := by
  subst h
  rw [map_getD l g]
  simp
theorem bools_map (g : Nat → Bool) : ∀ l : List Nat, LSm.BoolsAre (l.map fun i => Value.bool (g i)) (l.map g)
  | [] => .nil
  | _ :: l => .cons _ (bools_map g l)
theorem len_ty (ts : List Addr) (l : List Nat) : (List.map Value.ref (tyL ts l)).toArray.size = l.length := by simp
end Mine
end
local macro_rules | `(tactic| walk_at "call ref") => `(tactic| (k_here; (with_reducible show wpAny _ _ (call (Value.ref 539) [_, _] []) _ _ _); k_dflt (refine' Mine.Does.use (Mine.is_same_type_does ?hi ?hj ?hm ?hs ?ha) ?k1 ?k2 ?k3 ?k4 ?k5 ?k6 ?k7 ?k8 ?k9 ?_; (case k1 => k_asm); (case k2 => k_asm); (case k3 => k_asm); (case k4 => k_asm); (case k5 => k_asm); (case k6 => first | exact rfl | assumption); (case k7 => (intro g9 G9; refine' ⟨?a, ?b, ?c⟩; (case a => exact Mine.Wd.lift (by assumption) (Mine.lift_call (by assumption) (by assumption) G9 (by tb_start))); (case b => exact Mine.InstTo.lift (by assumption) (Mine.lift_call (by assumption) (by assumption) G9 (by tb_start))); (case c => exact Mine.InstTo.lift (by assumption) (Mine.lift_call (by assumption) (by assumption) G9 (by tb_start))))); (case hi => assumption); (case hj => assumption); (case hm => assumption); (case hs => assumption); (case ha => assumption); (case k8 => k_room); (case k9 => k_units)); (intro _ _ h' tk' F' N' G' _ hR'; obtain ⟨e1', e2'⟩ := hR'; subst e1'; subst e2'); (try simp only [List.nil_append] at N'); (try dsimp only [PySem.W.CmpBack]); (try k_sweep)))
local macro_rules | `(tactic| walk_at "call ref") => `(tactic| (k_here; (with_reducible show wpAny _ _ (call (Value.ref 520) [_, _] []) _ _ _); k_dflt (refine' Mine.Does.use (Mine.sub_tv_does ?h0 ?hi ?hj ?hm ?hs) ?k1 ?k2 ?k3 ?k4 ?k5 ?k6 ?k7 ?k8 ?k9 ?_; (case k1 => k_asm); (case k2 => k_asm); (case k3 => k_asm); (case k4 => k_asm); (case k5 => k_asm); (case k6 => first | exact rfl | assumption); (case k7 => (intro g9 G9; refine' ⟨?a, ?b, ?c, ?d, ?e⟩; (case b => exact Mine.TvAt.lift (by assumption) (Mine.lift_call (by assumption) (by assumption) G9 (by tb_start))); (case a => exact Mine.Wd.lift (by assumption) (Mine.lift_call (by assumption) (by assumption) G9 (by tb_start))); (case c => exact Mine.InstTo.lift (by assumption) (Mine.lift_call (by assumption) (by assumption) G9 (by tb_start))); (case d => exact Mine.InstTo.lift (by assumption) (Mine.lift_call (by assumption) (by assumption) G9 (by tb_start))); (case e => exact Mine.InstTo.lift (by assumption) (Mine.lift_call (by assumption) (by assumption) G9 (by tb_start))))); (case h0 => assumption); (case hi => assumption); (case hj => assumption); (case hm => assumption); (case hs => assumption); (case k8 => k_room); (case k9 => k_units)); (intro _ _ h' tk' F' N' G' _ hR'; obtain ⟨e1', e2'⟩ := hR'; subst e1'; subst e2'); (try simp only [List.nil_append] at N'); (try dsimp only [PySem.W.CmpBack]); (try k_sweep)))
namespace Mine
set_option maxRecDepth 100000
set_option maxHeartbeats 8000000
variable {w : World} {p : Program} {loose : List Str} {mean : ExcName → Option Value} {mg mb : Str → Option Value}
theorem gt_tv {chs : List (List Nat)} {cs ts : List Addr} {i0 k0 : Nat} {is ks : List Nat} {x y ub uy : Addr} {nm nm' : Str} {b : Bool} (h0 : 0 < chs.length) (his : ∀ k ∈ i0 :: is, k < chs.length) (hks : ∀ k ∈ k0 :: ks, k < chs.length) (hleni : is.length ≤ 5) (hlen : ks.length ≤ 5) (hmem : ∀ i k, k ∈ chs.getD i [] → k < chs.length) (hs : ∀ i, i < chs.length → sub chs i i = true)
    (ha : ∀ i j, i < chs.length → j < chs.length → sub chs i j = true → sub chs j i = true → i = j) (hc : ((i0 :: is).all fun v1 => (k0 :: ks).any fun v => v == v1) = false → is = []) :
    Gets w p loose mean mg mb 35 x y b (fun g => Wd (hAt g) chs cs ∧ TsAt (hAt g) chs cs ts ∧ TvAt (hAt g) x nm (tyL ts (k0 :: ks)) ub ∧ TvAt (hAt g) y nm' (tyL ts (i0 :: is)) uy ∧ uy = ts.getD 0 0) nm
      (if ((i0 :: is).all fun v1 => (k0 :: ks).any fun v => v == v1) then some y else ((best chs ((k0 :: ks).filter fun k => sub chs i0 k || sub chs 0 k)).map fun k => ts.getD k 0)) := by
  intro dp un gd cn cs' a ccd cl outer A₀ base h₀ L m s Q E f c' ce td fo oc oce its n B F X N T hk hfo hrep hsz hW hd hu hret
  obtain ⟨foc, fod, ffd, fsl, rfl⟩ := hfo
  refine wpAny_call ?_
  (first | (k_dflt (refine' Mine.enterCS (binds := [(Str.ofString "tvar", .ref x), (Str.ofString "typ", .ref y), (Str.ofString "report_incompatible_typevar_value", .ref f), (Str.ofString "skip_unsatisfied", .bool b)]) ?k1 ?k2 ?k3 ?k4 ?k5 ?kA ?kF ?kK ?k6 ?k7 ?k8 ?k9 ?kB ?kD ?_ ?c2 ?c3 ?c4; (case kA => exact rfl); (case kF => exact rfl); (case kK => first | exact rfl | assumption); (case k1 => k_asm); (case k2 => k_asm); (case k3 => k_asm); (case k4 => k_asm); (case k5 => k_asm); (case k6 => k_is); (case k7 => k_is); (case k8 => k_room); (case k9 => first | exact BindsTo.of_eq rfl | exact binds_K (by k_in) rfl (by k_is) rfl rfl rfl); (case kB => exact rfl); (case kD => decide +kernel); (case c2 => exact rfl); (case c3 => exact rfl); (case c4 => exact rfl); k_whole)) | fail "enter")
  intro g L₁ h₁ tk₁ cells FG F₁ N₁ Y₁ B₁ X₁ T₁ G l₁ hL
  (try k_lt l₁)
  k_cells Y₁
  (try simp only [List.cons_append, List.nil_append] at N₁)
  (try dsimp only)
  (try k_unmd)
  k_fold
  have hlt := Nat.le_trans hL (Nat.le_of_lt F₁.ns.lt)
  obtain ⟨hw, hts, hx, hy, rfl⟩ := hW _ G
  have hx' := hx
  obtain ⟨dx, ix, dix, vlx, gx1, kx1, gx2, kx2, gx3, kx3, gx4, kx4, gx5, kx5, gx6, kx6, gx7, kx7, tx1, tx2, tx3, tx4, nx1, nx2, nx3, rx, ex1, ex2, ex3, ex4, ex5⟩ := hx'
  have hy' := hy
  obtain ⟨dy, iy, diy, vly, gy1, ky1, gy2, ky2, gy3, ky3, gy4, ky4, gy5, ky5, gy6, ky6, gy7, ky7, ty1, ty2, ty3, ty4, ny1, ny2, ny3, ry, ey1, ey2, ey3, ey4, ey5⟩ := hy'
  iterate 61 (all_goals (first | (k_unfold; (try dsimp only)) | walk1 | (dsimp only; walk1) | skip))
  rename News _ _ _ _ => N'
  rename Fr _ _ _ _ => F'
  k_dflt (refine comp_K0 (fun i => Value.bool ((k0 :: ks).any fun v => v == (i0 :: is).getD i 0)) F' N' (by with_unfolding_all rfl) (by intro n; rfl) (by intro h; rfl) rfl (by decide) (by intro C K; rfl) ?_)
  repeat ((first | (with_reducible show wpAny _ _ _ _ _ _) | (with_reducible show PySem.W.Frag.In _ _ ∧ _)); (first | (k_unfold; (try dsimp only)) | walk1 | (dsimp only; walk1)))
  rename News _ _ _ _ => N'
  rename Fr _ _ _ _ => F'
  refine ⟨rfl, F', N', _, _, rfl, .inl (isList_of ey5), by simp only [List.size_toArray, List.length_map, List.length_cons]; unfold sizeLine; omega, ?_, ?_⟩
  · intro t v I oI C oC K oK D ys h tk E' hv hoK F₁ N₁
    obtain ⟨v1, hv1, rfl⟩ : ∃ k, (i0 :: is)[t]? = some k ∧ v = .ref (ts.getD k 0) := by
      simp only [List.map_toArray, List.getElem?_toArray, List.map_map, List.getElem?_map, Option.map_eq_some_iff] at hv
      obtain ⟨k, e1, rfl⟩ := hv
      exact ⟨k, e1, rfl⟩
    have hv1' := his v1 (List.mem_of_getElem? hv1)
    clear F' N'
    iterate 5 (first | (k_unfold; (try dsimp only)) | walk1 | (dsimp only; walk1))
    k_dflt (refine comp_U0 (fun i => Value.bool ((k0 :: ks).getD i 0 == v1)) F₁ N₁ (by with_unfolding_all rfl) (by decide) rfl (by decide) (by rfl) ?_)
    repeat ((first | (with_reducible show wpAny _ _ _ _ _ _) | (with_reducible show PySem.W.Frag.In _ _ ∧ _)); (first | (k_unfold; (try dsimp only)) | walk1 | (dsimp only; walk1)))
    refine ⟨rfl, by assumption, by assumption, _, _, .base (isList_of ex5), by simp only [List.size_toArray, List.length_map, List.length_cons]; unfold sizeLine; omega, ?_, ?_⟩
    · intro t2 v I2 oI2 C2 oC2 D2 m₂ ys2 h2 tk2 E2 ht2 hv hC2 hm2 F₂ N₂
      obtain ⟨v2, hv2, rfl⟩ : ∃ k, (k0 :: ks)[t2]? = some k ∧ v = .ref (ts.getD k 0) := by
        simp only [List.getElem?_toArray, List.map_map, List.getElem?_map, Option.map_eq_some_iff] at hv
        obtain ⟨k, e1, rfl⟩ := hv
        exact ⟨k, e1, rfl⟩
      have hv2' := hks v2 (List.mem_of_getElem? hv2)
      have hty := hts v2 hv2'
      have hti := hts v1 hv1'
      clear F₁ N₁
      repeat ((first | (with_reducible show wpAny _ _ _ _ _ _) | (with_reducible show PySem.W.Frag.In _ _ ∧ _)); (first | (k_unfold; (try dsimp only)) | walk1 | (dsimp only; walk1)))
      exact Pure1.intro (by rw [List.getD_eq_getElem?_getD, hv2]; rfl) (by assumption) (by assumption)
    · intro D2 h2 tk2 F₂ N₂ off2
      clear F₁ N₁
      iterate 1 (first | (k_unfold; (try dsimp only)) | walk1 | (dsimp only; walk1))
      k_dflt (refine LSm.any_bools (bs := (List.range _).map fun i => (k0 :: ks).getD i 0 == v1) F₂ N₂ rfl ⟨_, (N₂ _ (.head _)).1, rfl, _, rfl⟩ (bools_map _ _) ?_)
      intro h3 tk3 F₃ N₃
      rw [any_getD (len_ty ts (k0 :: ks)) fun k => k == v1]
      clear F₂ N₂
      repeat ((first | (with_reducible show wpAny _ _ _ _ _ _) | (with_reducible show PySem.W.Frag.In _ _ ∧ _)); (first | (k_unfold; (try dsimp only)) | walk1 | (dsimp only; walk1)))
      exact Pure1.intro (by rw [List.getD_eq_getElem?_getD, hv1]; rfl) (by assumption) (news_drop1 (by assumption))
  · intro D h tk F₁ N₁ off
    iterate 1 (first | (k_unfold; (try dsimp only)) | walk1 | (dsimp only; walk1))
    k_dflt (refine LSm.all_bools (bs := (List.range _).map fun i => (k0 :: ks).any fun v => v == (i0 :: is).getD i 0) F₁ N₁ rfl ⟨_, (N₁ _ (.head _)).1, rfl, _, rfl⟩ (bools_map _ _) ?_)
    intro h1 tk1 F₂ N₂
    rw [all_getD (len_ty ts (i0 :: is)) fun v1 => (k0 :: ks).any fun v => v == v1]
    clear F₁ N₁ F' N'
    cases hq : (i0 :: is).all fun v1 => (k0 :: ks).any fun v => v == v1 with
    | true =>
      k_steps
      refine hret _ its n [] _ _ (by assumption) (news_drop1 (news_drop1 (by assumption))) (gsub_trans G (Fr.keep (by assumption))) (by simp) ?_
      rw [hq]
      exact ⟨rfl, rfl, rfl⟩
    | false =>
      obtain rfl := hc hq
      have hy2 : TvAt (hAt g) y nm' [ts.getD i0 0] (ts.getD 0 0) := hy
      have hi0 := his i0 (.head _)
      have hti0 := hts i0 hi0
      have ht00 := hts 0 h0
      replace N₂ := news_drop1 N₂
      clear off hy hc
      repeat' ((fail_if_success (with_reducible show wpAny _ _ (pyIter _) _ _ _)); (first | (k_unfold; (try dsimp only)) | (k_end; wrow_close) | walk1 | (dsimp only; walk1) | (leave1; walk_say "STEP leave1"; try dsimp only)))
      rename Fr _ _ _ _ => F'
      rename News _ _ _ _ => N'
      with_unfolding_all refine loopF (fun t => (tyV ts (((k0 :: ks).take t).filter fun k => sub chs i0 k || sub chs 0 k)).toArray) rfl (isList_of ex5) F' N' rfl ?_ ?_
      · intro t v h tk own n1 hv ho F₁ N₁
        obtain ⟨k, hk, rfl⟩ : ∃ k, (k0 :: ks)[t]? = some k ∧ v = .ref (ts.getD k 0) := by
          simp only [List.map_map, List.getElem?_map, Option.map_eq_some_iff] at hv
          obtain ⟨k, e1, rfl⟩ := hv
          exact ⟨k, e1, rfl⟩
        have hk' := hks k (List.mem_of_getElem? hk)
        have hty := hts k hk'
        clear F' N'
        repeat' ((fail_if_success (with_reducible show wpAny _ _ (call (Value.builtin "list.append") _ _) _ _ _)); (first | (k_unfold; (try dsimp only)) | (k_end; wrow_close) | walk1 | (dsimp only; walk1) | (leave1; walk_say "STEP leave1"; try dsimp only)))
        · rename Fr _ _ _ _ => F'
          rename News _ _ _ _ => N'
          k_dflt (refine append_F F' N' ho (by k_all) ?_ (filt_size hlen))
          clear F' N'
          intro h' F' N'
          k_steps
          refine tbEnd_F F' N' (fun p h => h) ho (by intro z hz; exact if_neg hz) ?_
          rw [List.take_add_one, hk, List.filter_append]
          simp [*]
        · rename Fr _ _ _ _ => F'
          rename News _ _ _ _ => N'
          refine tbEnd_F F' N' (fun p h => h) ho (by intro z hz; exact if_neg hz) ?_
          rw [List.take_add_one, hk, List.filter_append]
          simp [*]
      · intro u h tk n1 F₁ N₁
        clear F' N'
        rw [List.length_map, List.length_map, List.take_length] at N₁
        generalize hfl : (k0 :: ks).filter (fun k => sub chs i0 k || sub chs 0 k) = fl at N₁ ⊢
        cases fl with
        | nil =>
          k_steps
          all_goals try (have hR := @hrep (by assumption); k_steps)
          · refine hret _ its n [] _ _ (by assumption) (news_drop1 (news_drop1 (by assumption))) (gsub_trans G (Fr.keep (by assumption))) (by simp) ?_
            rw [hq, if_neg Bool.false_ne_true, hfl, show b = true by assumption]
            exact ⟨rfl, rfl, rfl⟩
          · refine hret _ _ (n + 1) [_] _ _ (by assumption) (by assumption) (gsub_trans G (Fr.keep (by assumption))) ?_ ?_
            · intro q hq
              rw [List.mem_singleton.mp hq]
              exact tp_le (by assumption) (by assumption) hL
            · rw [hq, if_neg Bool.false_ne_true, hfl, show b = false by assumption]
              exact ⟨rfl, _, _, rfl, rfl⟩
        | cons f0 fr =>
          have hfr : fr.length ≤ 5 := by
            have h1 := List.length_filter_le (fun k => sub chs i0 k || sub chs 0 k) (k0 :: ks)
            rw [hfl] at h1
            simp only [List.length_cons] at h1
            omega
          repeat' ((fail_if_success (with_reducible show wpAny _ _ (pyIter _) _ _ _)); (first | (k_unfold; (try dsimp only)) | (k_end; wrow_close) | walk1 | (dsimp only; walk1) | (leave1; walk_say "STEP leave1"; try dsimp only)))
          rename Fr _ _ _ _ => F2
          rename News _ _ _ _ => N2
          dsimp only at F2 N2
          have hf0 : f0 < chs.length := hks f0 ((List.mem_filter.mp (hfl ▸ List.mem_cons_self : f0 ∈ (k0 :: ks).filter _)).1)
          have hfk : ∀ k ∈ fr, k < chs.length := fun k hk => hks k ((List.mem_filter.mp (hfl ▸ List.mem_cons_of_mem _ hk : k ∈ (k0 :: ks).filter _)).1)
          with_unfolding_all refine loopP (vs := tyV ts fr) (z := Str.ofString "best") (fun t => .ref (ts.getD (pick chs f0 (fr.take t)) 0)) rfl (sliceList N2) (loc_next (by assumption)) F2 (news_drop1 N2) (off_next (by assumption)) ?_ ?_
          · intro t v u' h tk own hv ho F₁ N₁
            obtain ⟨k, hk, rfl⟩ : ∃ k, fr[t]? = some k ∧ v = .ref (ts.getD k 0) := by
              simp only [List.getElem?_map, Option.map_eq_some_iff] at hv
              obtain ⟨k, e1, rfl⟩ := hv
              exact ⟨k, e1, rfl⟩
            have hk' := hfk k (List.mem_of_getElem? hk)
            have hb' : pick chs f0 (fr.take t) < chs.length := pick_mem (P := (· < chs.length)) hf0 fun q hq => hfk q (List.mem_of_mem_take hq)
            have htk := hts k hk'
            have htb := hts _ hb'
            have hp := pick_take (chs := chs) (f0 := f0) hk
            clear F2 N2
            generalize pick chs f0 (fr.take t) = bb at *
            k_steps
            · rename Fr _ _ _ _ => F3
              rename News _ _ _ _ => N3
              refine tbEnd_P' F3 N3 (fun p h => h) ho ?_
              rw [hp, if_pos (by assumption)]
            · rename Fr _ _ _ _ => F3
              rename News _ _ _ _ => N3
              refine tbEnd_P (by decide) F3 N3 (fun p h => h) ho ?_
              rw [hp, if_neg (by simp [*])]
          · intro u' h tk F₁ N₁
            clear F2 N2
            k_steps
            refine hret _ its n [] _ _ (by assumption) (news_drop1 (news_drop1 (by assumption))) (gsub_trans G (Fr.keep (by assumption))) (by simp) ?_
            rw [hq, if_neg Bool.false_ne_true, hfl]
            refine ⟨?_, rfl, rfl⟩
            rw [List.length_map, List.take_length]
end Mine

namespace Mine
set_option maxRecDepth 100000
set_option maxHeartbeats 8000000
variable {w : World} {p : Program} {loose : List Str} {mean : ExcName → Option Value} {mg mb : Str → Option Value}
/-- the script's word at a place, or another -/
def atOr (ns : List Int) (k : Nat) (o : Int) : Int := if k < ns.length then ns.getD k 0 else o
theorem law_at_does {sc : Addr} {vs : List Value} {ns : List Int} {k o : Int} {t1 t2 : Tok} (hk0 : 0 ≤ k) (hi : IntsAre vs ns) (hlen : ns.length ≤ 63) :
    Does w p loose mean mg mb 3 631 [.ref sc, .int k t1, .int o t2] [] (fun g => g.IsList sc vs.toArray) (fun r tl => tl = [] ∧ ∃ t, r = .int (atOr ns k.toNat o) t) := by
  intro dp un gd cn cs' a ccd cl outer A₀ base h₀ L m news s Q E B F X N T hk hW hd hu hret
  refine wpAny_call ?_
  (first | (k_dflt (refine' code_defG (binds := [(Str.ofString "script", .ref sc), (Str.ofString "k", .int k t1), (Str.ofString "other", .int o t2)]) ?k1 ?k2 ?k3 ?k4 ?k5 ?kA ?kF ?kK ?k6 ?k7 ?k8 ?k9 ?kB ?_ ?c2 ?c3 ?c4 ?c5; (case kA => exact rfl); (case kF => exact rfl); (case kK => first | exact rfl | assumption); (case k1 => k_asm); (case k2 => k_asm); (case k3 => k_asm); (case k4 => k_asm); (case k5 => k_asm); (case k6 => k_is); (case k7 => k_is); (case k8 => k_room); (case k9 => first | exact BindsTo.of_eq rfl | exact binds_K (by k_in) rfl (by k_is) rfl rfl rfl); (case c5 => decide); (case kB => exact locs rfl); (case c2 => exact rfl); (case c3 => exact rfl); (case c4 => exact rfl); k_whole)) | fail "enter")
  intro g L₁ h₁ FG F₁ N₁ B₁ X₁ T₁ G
  dsimp only [List.reverse, List.reverseAux] at F₁
  (try dsimp only)
  (try k_unmd)
  k_fold
  have hl := hW _ G
  have hvl : vs.length = ns.length := hi.length
  k_steps
  · refine hret _ [] _ _ (by assumption) (cb_drop (by assumption) (by kcf_all)) (gsub_trans G (Fr.keep (by assumption))) (by simp) ?_
    have h1 : k < ns.length := by assumption
    exact ⟨rfl, _, congrArg (Value.int · _) (by rw [atOr, if_pos (by omega)])⟩
  · refine hret _ [] _ _ (by assumption) (cb_drop (by assumption) (by kcf_all)) (gsub_trans G (Fr.keep (by assumption))) (by simp) ?_
    have h1 : ¬ k < ns.length := by assumption
    exact ⟨rfl, _, congrArg (Value.int · _) (by rw [atOr, if_neg (by omega)])⟩
end Mine

section
open PySem.Spec
namespace Mine
set_option maxRecDepth 100000
section
variable {prog : Program} {w : World} {A₀ A : Around} {s : Shared} {base h₀ : Heap} {outer : List Env} {L : Addr} {m : Str → Option Value} {env : Env} {news : List (Addr × Obj)} {E : Value → Shared → Prop}
theorem code_defGS {K : Frag} {p : Program} {loose : List Str} {mean : ExcName → Option Value} {mg mb : Str → Option Value} {R : Result → Shared → Prop} {name qual : Str} {params : Arguments} {body : List Stmt} {scope : Scope} {dV kV doc pm cdv ct oc : Value} {an od : Option Addr} {osl : Array (Option Value)} {f : Addr} {args : Args} {binds : List (Str × Value)}
    (B : Below A₀ base outer h₀) (F : Fr h₀ L s.heap m) (X₀ : K.In h₀) (N : News h₀ L s.heap news) (T : Top p loose mean mg mb h₀) (hA : A.frames = some (env :: outer)) (hf : env.frame = some L) (hke : env.scope.kind = .function)
    (ho : K.lookup f = some ⟨oc, od, .func (fnOf name qual params body scope dV kV doc pm an cdv ct), osl⟩) (hcd : codeIn K cdv qual = true) (hroom : A.depth < recursionLimit)
    (hbind : BindsTo s (fnOf name qual params body scope dV kV doc pm an cdv ct) args binds) (hloc : ∀ y ∈ binds, scope.names.lookup y.1 = some .local)
    (h : ∀ g L' h₁, Fr h₀ L g m → Fr g L' h₁ (fun y => binds.reverse.lookup y) → News g L' h₁ news → Below A base (env :: outer) g → K.In g → Top p loose mean mg mb g → GSub s.heap g (news.map (·.1)) → s.heap.objs.size ≤ L' →
      wpAny (model prog w) (A.deeper (envOf qual scope L' f cdv)) (execs body (envOf qual scope L' f cdv))
        (fun fl s' => LeaveK h₀ L m g R (match fl with | .ret v => v | _ => .none) s')
        (fun e s' => wpAny (model prog w) (A.deeper (envOf qual scope L' f cdv)) (leaving (envOf qual scope L' f cdv) e) (fun _ s'' => R (.error e) s'') (fun e' s'' => R (.error e') s'') s')
        { s with heap := h₁, toks := s.toks + binds.length })
    (hco : scope.isCoroutine = false) (hgen : scope.isGenerator = false) (hk : scope.kind = .function)
    (hcell : ∀ x ∈ scope.names, x.2 ≠ .cell) : codeAny (model prog w) A (.call (.ref f) args) R s := by
  obtain ⟨FG, BG, st, lv⟩ := groundX (R := R) B F N hA hf hke
  refine codeAny_call_def (fd := fnX name qual params body scope [] dV kV doc pm an cdv ct) (body := body) (binds := binds) hroom ((X₀.keeps F.keep) _ _ ho) rfl (T.nolimit.keeps F.keep) (codeRec_of (X₀.keeps F.keep) hcd) rfl hbind hcell hloc (fun h₁ hns hk₁ => ?_) hco hgen hk
  exact wpAny_mono (h _ s.heap.objs.size h₁ FG ⟨hns, fun b o e => hk₁ b o (of_hideAll _ e), Nat.le_of_eq (hideAll_size _ _)⟩
    (fun p hp => ⟨hk₁ _ _ (N p hp).1, Nat.ne_of_lt (Heap.lt_size (N p hp).1), hideAll_none _ (List.mem_map_of_mem hp)⟩) BG (X₀.keeps st) (T.keeps st) (fun b o e n => hideAll_get _ e n) (Nat.le_refl _)) (fun fl s' hl => lv _ _ hl) fun _ _ y => y
theorem newList_lt {vs : List Value} {Q : Value → Shared → Prop} (F : Fr h₀ L s.heap m) (N : News h₀ L s.heap news)
    (h : ∀ D h', Fr h₀ L h' m → News h₀ L h' ((D, listOf vs.toArray 0) :: news) → (∀ q ∈ news, q.1 < D) → s.heap.objs.size ≤ D → Q (.ref D) { s with heap := h' }) (hz : vs.length ≤ sizeLine) : wpAny (model prog w) A (newList vs) Q E s :=
  newList_N F N (fun h' F' N' => h _ h' F' N' (fun p hp => Heap.lt_size (N p hp).1) (Nat.le_refl _)) hz
end
end Mine

end
namespace Mine
set_option maxRecDepth 100000
set_option maxHeartbeats 8000000
variable {w : World} {p : Program} {loose : List Str} {mean : ExcName → Option Value} {mg mb : Str → Option Value}
/-- the lines of the classes: each is its class and then its parent's line -/
structure Good (chs : List (List Nat)) : Prop where
  pos : 0 < chs.length
  zero : chs.getD 0 [] = [0]
  step : ∀ i, 0 < i → i < chs.length → ∃ p, p < i ∧ chs.getD i [] = i :: chs.getD p []
theorem Good.len {chs : List (List Nat)} (g : Good chs) : ∀ i, i < chs.length → (chs.getD i []).length ≤ i + 1 := by
  intro i
  induction i using Nat.strongRecOn with
  | ind i ih =>
    intro hi
    cases Nat.eq_zero_or_pos i with
    | inl e => subst e; rw [g.zero]; exact Nat.le_refl _
    | inr e =>
      obtain ⟨p, hp, e⟩ := g.step i e hi
      have := ih p hp (Nat.lt_trans hp hi)
      rw [e, List.length_cons]
      omega
abbrev clV (cs : List Addr) (l : List Nat) : List Value := l.map fun k => Value.ref (cs.getD k 0)
section
variable {prog : Program} {A : Around} {E : Value → Shared → Prop} {s : Shared}
theorem item_last {value slice : PySem.Expr} {l : Addr} {cs : List Addr} {pre : List Nat} {q : Nat} {u : Tok} {Q : Value → Shared → Prop} (hl : s.heap.IsList l (clV cs (pre ++ [q])).toArray) (h : Q (.ref (cs.getD q 0)) s)
    (hs : subscripted slice false (.ref l) (.int (-1) u) = operate [.ref l, .int (-1) u] (getItem (.ref l) (.int (-1) u)) := by with_unfolding_all rfl) : wpAny (model prog w) A (subscriptTail value slice (.ref l) (.int (-1) u)) Q E s :=
  tail_any hl.typeIs slot_list_getitem.lookup (wpAny_getItem_list_neg hl (by decide) (by simp only [List.size_toArray, List.length_map, List.length_append, List.length_singleton]; omega) (by decide) (by
    simp only [List.size_toArray, List.length_map, List.length_append, List.length_singleton, List.map_append]
    rw [show ((-1 : Int) + ((pre.length + 1 : Nat) : Int)).toNat = pre.length by omega]
    simp) h) hs
end
end Mine
local macro_rules | `(tactic| walk_at "subscriptTail") => `(tactic| (k_here; (with_reducible show wpAny _ _ (subscriptTail _ _ (Value.ref _) (Value.int (-1) _)) _ _ _); k_dflt (refine' Mine.item_last ?k1 ?_ ?k6; (case k1 => (refine' News.isList ?g ?i; (case g => k_asm); (case i => k_mem))); (case k6 => with_unfolding_all rfl); k_whole)))
local macro_rules | `(tactic| walk_at "subscriptTail Name UnaryOp ref int") => `(tactic| (k_here; (with_reducible show wpAny _ _ (subscriptTail _ _ (Value.ref _) (Value.int (-1) _)) _ _ _); k_dflt (refine' Mine.item_last ?k1 ?_ ?k6; (case k1 => (refine' News.isList ?g ?i; (case g => k_asm); (case i => k_mem))); (case k6 => with_unfolding_all rfl); k_whole)))
namespace Mine
theorem law_line_does {chs : List (List Nat)} {cs : List Addr} {i : Nat} (hi : i < chs.length) (hg : Good chs) (hlen : chs.length ≤ 7) :
    Does w p loose mean mg mb 3 645 [.ref (cs.getD i 0)] [] (fun g => Wd (hAt g) chs cs) (fun r tl => ∃ l n, r = .ref l ∧ tl = [(l, listOf (clV cs (chs.getD i [])).toArray n)]) := by
  intro dp un gd cn cs' a ccd cl outer A₀ base h₀ L m news s Q E B F X N T hk hW hd hu hret
  refine wpAny_call ?_
  (first | (k_dflt (refine' Mine.code_defGS (binds := [(Str.ofString "one", .ref (cs.getD i 0))]) ?k1 ?k2 ?k3 ?k4 ?k5 ?kA ?kF ?kK ?k6 ?k7 ?k8 ?k9 ?kB ?_ ?c2 ?c3 ?c4 ?c5; (case kA => exact rfl); (case kF => exact rfl); (case kK => first | exact rfl | assumption); (case k1 => k_asm); (case k2 => k_asm); (case k3 => k_asm); (case k4 => k_asm); (case k5 => k_asm); (case k6 => k_is); (case k7 => k_is); (case k8 => k_room); (case k9 => first | exact BindsTo.of_eq rfl | exact binds_K (by k_in) rfl (by k_is) rfl rfl rfl); (case c5 => decide); (case kB => exact locs rfl); (case c2 => exact rfl); (case c3 => exact rfl); (case c4 => exact rfl); k_whole)) | fail "enter")
  intro g L₁ h₁ FG F₁ N₁ B₁ X₁ T₁ G hL
  have hlt := Nat.le_trans hL (Nat.le_of_lt F₁.ns.lt)
  dsimp only [List.reverse, List.reverseAux] at F₁
  (try dsimp only)
  (try k_unmd)
  k_fold
  have hw := hW _ G
  iterate 6 (all_goals (first | (k_unfold; (try dsimp only)) | walk1 | (dsimp only; walk1) | skip))
  k_dflt (refine newList_lt F₁ N₁ ?_ (Nat.le_of_ble_eq_true rfl))
  intro l h' F' N' l1 lx
  clear F₁ N₁
  iterate 3 (all_goals (first | (k_unfold; (try dsimp only)) | walk1 | (dsimp only; walk1) | skip))
  rename Fr _ _ _ _ => F'
  rename News _ _ _ _ => N'
  k_dflt (refine While_inv (n₀ := (chs.getD i []).length) (fun n m₁ nx => m₁ = _ ∧ ∃ q pre nn, q < chs.length ∧ chs.getD i [] = pre ++ chs.getD q [] ∧ n = (chs.getD q []).length ∧ nx = (_, listOf (clV cs (pre ++ [q])).toArray nn) :: news) F' N' ⟨rfl, i, [], 0, hi, rfl, rfl, rfl⟩ ?_)
  rintro n m₁ nx h tk F₁ N₁ ⟨rfl, q, pre, nn, hq, hpre, rfl, rfl⟩
  clear F' N'
  have hcl := hw.cls q hq
  obtain ⟨dq, dfq, ddq, tvq, twq, blq, mlq, pq0, qq0, pq1, qq1, pq2, qq2, pq3, qq3, pq4, qq4, pq5, qq5, tkq, nq1, nq2, nq3, nq4, nq5, aq1, aq2, aq3, aq4, aq5, aq6, aq7, aq8⟩ := hcl
  cases Nat.eq_zero_or_pos q with
  | inl hq0 =>
    subst hq0
    rw [hg.zero] at aq8
    obtain ⟨nb, ab⟩ := aq8
    k_steps
    refine hret _ [_] _ _ (by assumption) (by assumption) (gsub_trans G (Fr.keep (by assumption))) ?_ ⟨l, nn, rfl, by rw [hpre, hg.zero]⟩
    intro q hq
    rw [List.mem_singleton.mp hq]
    exact Nat.le_trans hlt lx
  | inr hq0 =>
    obtain ⟨pq, hpq, hln⟩ := hg.step q hq0 hq
    have hln' : ∃ r, chs.getD pq [] = pq :: r := by
      cases Nat.eq_zero_or_pos pq with
      | inl e => subst e; exact ⟨_, hg.zero⟩
      | inr e =>
        obtain ⟨_, _, e'⟩ := hg.step pq e (Nat.lt_trans hpq hq)
        exact ⟨_, e'⟩
    obtain ⟨r, hr⟩ := hln'
    rw [hln, hr] at aq8
    obtain ⟨x, nb, ab, hx⟩ := aq8
    obtain ⟨dx, tx, px1, qx1, px2, qx2, nx1, nx2, ex1, ex2, ex3⟩ := hx
    k_steps
    k_dflt (change wpAny _ _ (getAttr (Value.ref x) _ _) _ _ _)
    repeat' ((fail_if_success (with_reducible show wpAny _ _ (call (Value.builtin "list.append") _ _) _ _ _)); (first | (k_unfold; (try dsimp only)) | (k_end; wrow_close) | walk1 | (dsimp only; walk1) | (leave1; walk_say "STEP leave1"; try dsimp only)))
    rename Fr _ _ _ _ => F'
    rename News _ _ _ _ => N'
    k_dflt (refine append_K F' N' (Upd.head fun q hq => Nat.ne_of_lt (l1 q hq)) ?_ ?_)
    · intro h' F' N'
      k_steps
      refine WhileStep.intro (n' := (chs.getD pq []).length) F' N' ?_ ⟨rfl, pq, pre ++ [q], nn + 1, Nat.lt_trans hpq hq, ?_, rfl, ?_⟩
      · rw [hln]; exact Nat.lt_succ_self _
      · rw [hpre, hln, List.append_assoc]; rfl
      · rw [show clV cs ((pre ++ [q]) ++ [pq]) = clV cs (pre ++ [q]) ++ [Value.ref (cs.getD pq 0)] from List.map_append, List.push_toArray]
    · have e1 := hg.len i hi
      have e2 := congrArg List.length hpre
      rw [List.length_append, hln, List.length_cons] at e2
      simp only [List.size_toArray, List.length_map, List.length_append, List.length_singleton]
      unfold sizeLine
      omega
end Mine

namespace Mine
variable {chs : List (List Nat)}
theorem Good.mem_le (g : Good chs) : ∀ i, i < chs.length → ∀ k ∈ chs.getD i [], k ≤ i := by
  intro i
  induction i using Nat.strongRecOn with
  | ind i ih =>
    intro hi k hk
    cases Nat.eq_zero_or_pos i with
    | inl e => subst e; rw [g.zero] at hk; exact Nat.le_of_eq (List.mem_singleton.mp hk)
    | inr e =>
      obtain ⟨p, hp, e⟩ := g.step i e hi
      rw [e] at hk
      rcases List.mem_cons.mp hk with rfl | hk
      · exact Nat.le_refl _
      · exact Nat.le_trans (ih p hp (Nat.lt_trans hp hi) k hk) (Nat.le_of_lt hp)
theorem Good.mem_lt (g : Good chs) : ∀ i k, k ∈ chs.getD i [] → k < chs.length := by
  intro i k hk
  by_cases hi : i < chs.length
  · exact Nat.lt_of_le_of_lt (g.mem_le i hi k hk) hi
  · rw [List.getD_eq_getElem?_getD, List.getElem?_eq_none (Nat.le_of_not_lt hi)] at hk
    exact absurd hk List.not_mem_nil
theorem Good.self (g : Good chs) {i : Nat} (hi : i < chs.length) : i ∈ chs.getD i [] := by
  cases Nat.eq_zero_or_pos i with
  | inl e => subst e; rw [g.zero]; exact .head _
  | inr e => obtain ⟨p, _, e⟩ := g.step i e hi; rw [e]; exact .head _
theorem Good.nodup (g : Good chs) : ∀ i, i < chs.length → (chs.getD i []).Nodup := by
  intro i
  induction i using Nat.strongRecOn with
  | ind i ih =>
    intro hi
    cases Nat.eq_zero_or_pos i with
    | inl e => subst e; rw [g.zero]; simp
    | inr e =>
      obtain ⟨p, hp, e⟩ := g.step i e hi
      rw [e, List.nodup_cons]
      exact ⟨fun h => absurd (g.mem_le p (Nat.lt_trans hp hi) i h) (Nat.not_le_of_lt hp), ih p hp (Nat.lt_trans hp hi)⟩
theorem Good.split (g : Good chs) : ∀ i, i < chs.length → ∃ pre, chs.getD i [] = pre ++ [0] ∧ ∀ k ∈ pre, k ≠ 0 := by
  intro i
  induction i using Nat.strongRecOn with
  | ind i ih =>
    intro hi
    cases Nat.eq_zero_or_pos i with
    | inl e => subst e; exact ⟨[], g.zero, fun _ h => nomatch h⟩
    | inr e =>
      obtain ⟨p, hp, e'⟩ := g.step i e hi
      obtain ⟨pre, h1, h2⟩ := ih p hp (Nat.lt_trans hp hi)
      refine ⟨i :: pre, by rw [e', h1]; rfl, fun k hk => ?_⟩
      rcases List.mem_cons.mp hk with rfl | hk
      · exact Nat.ne_of_gt e
      · exact h2 k hk
theorem Good.order (g : Good chs) {i : Nat} (hi : i < chs.length) : (chs.getD i []).filter (fun k => k != 0) ++ (chs.getD i []).filter (fun k => !(k != 0)) = chs.getD i [] := by
  obtain ⟨pre, h1, h2⟩ := g.split i hi
  rw [h1, List.filter_append, List.filter_append]
  rw [List.filter_eq_self.mpr (fun k hk => by simp [h2 k hk]), show List.filter (fun k => !(k != 0)) pre = [] from List.filter_eq_nil_iff.mpr (fun k hk => by simp [h2 k hk])]
  simp
/-- the parent of the class at a place, by its line -/
theorem Good.up (g : Good chs) (cs : List Addr) {i : Nat} (hi : i < chs.length) : (i = 0 ∧ upOf cs (chs.getD i []) = none) ∨ (i ≠ 0 ∧ ∃ p, p < i ∧ chs.getD i [] = i :: chs.getD p [] ∧ upOf cs (chs.getD i []) = some (cs.getD p 0)) := by
  cases Nat.eq_zero_or_pos i with
  | inl e => subst e; exact .inl ⟨rfl, by rw [g.zero]; rfl⟩
  | inr e =>
    obtain ⟨p, hp, e'⟩ := g.step i e hi
    refine .inr ⟨Nat.ne_of_gt e, p, hp, e', ?_⟩
    have : ∃ r, chs.getD p [] = p :: r := by
      cases Nat.eq_zero_or_pos p with
      | inl e => subst e; exact ⟨_, g.zero⟩
      | inr e => obtain ⟨_, _, e'⟩ := g.step p e (Nat.lt_trans hp hi); exact ⟨_, e'⟩
    obtain ⟨r, hr⟩ := this
    rw [e', hr]
    rfl
/-- the classes grow by one below the class at a place -/
theorem Good.grow (g : Good chs) {p : Nat} (hp : p < chs.length) : Good (chs ++ [chs.length :: chs.getD p []]) := by
  have old : ∀ i, i < chs.length → (chs ++ [chs.length :: chs.getD p []]).getD i [] = chs.getD i [] := fun i hi => by
    rw [List.getD_eq_getElem?_getD, List.getElem?_append_left hi, List.getD_eq_getElem?_getD]
  refine ⟨by rw [List.length_append]; exact Nat.lt_of_lt_of_le g.pos (Nat.le_add_right _ _), by rw [old 0 g.pos, g.zero], fun i h0 hi => ?_⟩
  rw [List.length_append, List.length_singleton] at hi
  by_cases hl : i < chs.length
  · obtain ⟨q, hq, e⟩ := g.step i h0 hl
    exact ⟨q, hq, by rw [old i hl, e, old q (Nat.lt_trans hq hl)]⟩
  · have : i = chs.length := by omega
    subst this
    refine ⟨p, hp, ?_⟩
    rw [old p hp, List.getD_eq_getElem?_getD, List.getElem?_append_right (Nat.le_refl _)]
    simp
end Mine

section
open PySem.Spec
namespace Mine
set_option maxRecDepth 100000
section
variable {prog : Program} {w : World} {A : Around} {E : Value → Shared → Prop} {s : Shared}
theorem ne_nil {a b : Addr} {l : List Value} {Q : Value → Shared → Prop} (ha : s.heap.IsList a l.toArray) (hb : s.heap.IsList b #[]) (hu : A.units < cLine) (h : Q (.bool (!l.isEmpty)) s) : wpAny (model prog w) A (compareOp .NotEq (.ref a) (.ref b)) Q E s := by
  cases l with
  | nil => exact SeqAt.RcNeAt.lists (e := fun _ => true) ha hb rfl hu (fun j h1 _ => absurd h1 (Nat.not_lt_zero _)) prog w E Q h
  | cons x l => exact SeqAt.RcNeAt.lists_lengths ha hb (by simp) hu prog w E Q h
theorem eq_nil {a b : Addr} {l : List Value} {Q : Value → Shared → Prop} (ha : s.heap.IsList a l.toArray) (hb : s.heap.IsList b #[]) (hu : A.units < cLine) (h : Q (.bool l.isEmpty) s) : wpAny (model prog w) A (compareOp .Eq (.ref a) (.ref b)) Q E s := by
  cases l with
  | nil => exact SeqAt.eq_listAt (e := fun _ => true) ha hb rfl hu (fun j h1 _ => absurd h1 (Nat.not_lt_zero _)) h
  | cons x l => exact SeqAt.eq_list_lengthsAt ha hb (by simp) hu h
end
theorem nonempty_filter (t : Nat → Bool) : ∀ l : List Nat, (!(l.filter t).isEmpty) = l.any t
  | [] => rfl
  | x :: l => by
    have ih := nonempty_filter t l
    cases h : t x <;> simp [List.filter_cons, h]
    simpa using ih
theorem among_any {α : Type} {n : Nat} {l : List Nat} (hn : n = l.length) (t : Nat → Bool) (f : Nat → α) : (!(((List.range n).filter fun i => t (l.getD i 0)).map f).isEmpty) = l.any t := by
  subst hn
  rw [← nonempty_filter t l, ← filter_getD l t 0, List.isEmpty_map, List.isEmpty_map]
theorem len_cl (cs : List Addr) (l : List Nat) : (clV cs l).toArray.size = l.length := by simp
end Mine
end
local macro_rules | `(tactic| walk_at "compareOp NotEq ref") => `(tactic| (k_here; (with_reducible show wpAny _ _ (compareOp CmpOp.NotEq (Value.ref _) (Value.ref _)) _ _ _); k_dflt (refine' Mine.ne_nil ?a ?b ?u ?_; (case b => (refine' News.isList ?g ?i; (case g => k_asm); (case i => k_mem))); (case a => (refine' News.isList ?g ?i; (case g => k_asm); (case i => k_mem))); (case u => k_units); k_whole)))
local macro_rules | `(tactic| walk_at "compareOp Eq ref ref") => `(tactic| (k_here; (with_reducible show wpAny _ _ (compareOp CmpOp.Eq (Value.ref _) (Value.ref _)) _ _ _); k_dflt (refine' Mine.eq_nil ?a ?b ?u ?_; (case b => (refine' News.isList ?g ?i; (case g => k_asm); (case i => k_mem))); (case a => (refine' News.isList ?g ?i; (case g => k_asm); (case i => k_mem))); (case u => k_units); k_whole)))
namespace Mine
set_option maxRecDepth 100000
set_option maxHeartbeats 8000000
variable {w : World} {p : Program} {loose : List Str} {mean : ExcName → Option Value} {mg mb : Str → Option Value}
theorem law_among_does {chs : List (List Nat)} {cs : List Addr} {j : Nat} {l : List Nat} {rows : Addr} (hj : j < chs.length) (hl : ∀ k ∈ l, k < chs.length) (hlen : l.length ≤ 100) :
    Does w p loose mean mg mb 4 650 [.ref (cs.getD j 0), .ref rows] [] (fun g => Wd (hAt g) chs cs ∧ ∃ n, hAt g rows (listOf (clV cs l).toArray n)) (fun r tl => tl = [] ∧ r = .bool (l.any (· == j))) := by
  intro dp un gd cn cs' a ccd cl outer A₀ base h₀ L m news s Q E B F X N T hk hW hd hu hret
  refine wpAny_call ?_
  (first | (k_dflt (refine' Mine.enterC (binds := [(Str.ofString "one", .ref (cs.getD j 0)), (Str.ofString "rows", .ref rows)]) ?k1 ?k2 ?k3 ?k4 ?k5 ?kA ?kF ?kK ?k6 ?k7 ?k8 ?k9 ?kB ?kD ?_ ?c2 ?c3 ?c4; (case kA => exact rfl); (case kF => exact rfl); (case kK => first | exact rfl | assumption); (case k1 => k_asm); (case k2 => k_asm); (case k3 => k_asm); (case k4 => k_asm); (case k5 => k_asm); (case k6 => k_is); (case k7 => k_is); (case k8 => k_room); (case k9 => first | exact BindsTo.of_eq rfl | exact binds_K (by k_in) rfl (by k_is) rfl rfl rfl); (case kB => exact rfl); (case kD => decide +kernel); (case c2 => exact rfl); (case c3 => exact rfl); (case c4 => exact rfl); k_whole)) | fail "enter")
  intro g L₁ h₁ tk₁ cells FG F₁ N₁ Y₁ B₁ X₁ T₁ G l₁
  (try k_lt l₁)
  k_cells Y₁
  (try simp only [List.cons_append, List.nil_append] at N₁)
  (try dsimp only)
  (try k_unmd)
  k_fold
  obtain ⟨hw, nr, hr⟩ := hW _ G
  obtain ⟨dj, aj1⟩ := wd_obj hw hj
  iterate 3 (all_goals (first | (k_unfold; (try dsimp only)) | walk1 | (dsimp only; walk1) | skip))

  rename Fr _ _ _ _ => F'
  rename News _ _ _ _ => N'
  k_dflt (refine comp_U1 (fun i => l.getD i 0 == j) (fun i => Value.ref (cs.getD (l.getD i 0) 0)) F' N' (by with_unfolding_all rfl) (by decide) rfl (by decide) (by rfl) ?_)
  repeat ((first | (with_reducible show wpAny _ _ _ _ _ _) | (with_reducible show PySem.W.Frag.In _ _ ∧ _)); (first | (k_unfold; (try dsimp only)) | walk1 | (dsimp only; walk1)))
  refine ⟨rfl, by assumption, by assumption, _, _, .base (isList_of hr), by simp only [List.size_toArray, List.length_map]; unfold sizeLine; omega, ?_, ?_⟩
  · intro t v I oI C oC D m₂ ys h tk E₂ ht hv hC hm F₂ N₂
    obtain ⟨k, hk, rfl⟩ : ∃ k, l[t]? = some k ∧ v = .ref (cs.getD k 0) := by
      simp only [List.getElem?_toArray, List.getElem?_map, Option.map_eq_some_iff] at hv
      obtain ⟨k, e1, rfl⟩ := hv
      exact ⟨k, e1, rfl⟩
    have hk' := hl k (List.mem_of_getElem? hk)
    obtain ⟨dk, ak1⟩ := wd_obj hw hk'
    have hkj := wd_eq hw hk' hj
    have hgk : l.getD t 0 = k := by rw [List.getD_eq_getElem?_getD, hk]; rfl
    clear F' N'
    k_steps
    · rw [hgk, ← hkj]; assumption
    · exact Pure1.intro (by rw [hgk]) (by assumption) (by assumption)
    · rw [hgk, ← hkj]; assumption
    · exact Pure1.intro rfl (by assumption) (by assumption)
  · intro D h tk F₂ N₂ off
    clear F' N'
    k_steps
    refine hret _ [] _ _ (by assumption) (news_drop1 (news_drop1 (news_drop1 (by assumption)))) (gsub_trans G (Fr.keep (by assumption))) (by simp) ⟨rfl, ?_⟩
    rw [among_any (len_cl cs l) (fun k => k == j)]
end Mine

section
open PySem.Spec
namespace Mine
set_option maxRecDepth 100000
section
variable {prog : Program} {w : World} {A : Around} {K : Frag} {C x : Addr} {s : Shared} {h₀ : Heap} {L : Addr} {m : Str → Option Value} {news : List (Addr × Obj)} {E : Value → Shared → Prop} {Q : Value → Shared → Prop}
/-- a class called: the new object, and all that was is kept -/
theorem call_clsG {pos : List Value} {kw : List (Str × Value)} {fI : Addr} (F : Fr h₀ L s.heap m) (X₀ : K.In h₀) (N : News h₀ L s.heap news) (hm : makesIn K C = true) (hi : findIn K (.ref C) "__init__" = some (some (.ref fI))) (hf : isFn K (.ref fI) = true)
    (h : ∀ x dx h', Fr h₀ L h' m → News h₀ L h' ((x, instObj C dx) :: (dx, dictOf [] 0) :: news) → (∀ p ∈ news, p.1 < dx) → dx < x → (∀ b o, s.heap.get? b = some o → h'.get? b = some o) → s.heap.objs.size ≤ dx →
      codeAny (model prog w) (A.under (.builtin "type.__call__" ⟨.ref C :: pos, kw⟩)) (.call (.ref fI) ⟨.ref x :: pos, kw⟩) (InitBack x fun r s' => match r with | .ok (.ret v) => Q v s' | .ok _ => False | .error e => E e s') { s with heap := h' }) :
    wpAny (model prog w) A (call (.ref C) pos kw) Q E s := by
  refine wpAny_call ?_
  have X := X₀.keeps F.keep
  have hf' := beq_iff_eq.mp hf
  obtain ⟨hh, g, d, t, os⟩ := s
  refine make_core (makes_of X hm) (looks_findIn X hi) (fun self => bind_fn X self hf') (.inl rfl) (h _ hh.objs.size _ ((F.push _).push _) ?_ (fun p hp => Heap.lt_size (N p hp).1) (Nat.lt_succ_self _) (fun b o e => Heap.get?_push_of_some _ (Heap.get?_push_of_some _ e)) (Nat.le_refl _))
  have := (N.push F emptyDict).push (F.push _) (instObj C hh.objs.size)
  rwa [Heap.size_push] at this
end
theorem gsub_new {h h' g : Heap} {x d : Addr} {adr : List Addr} (K : ∀ b o, h.get? b = some o → h'.get? b = some o) (G : GSub h' g (x :: d :: adr)) (S : h.objs.size ≤ d) (l : @LT.lt Nat _ d x) : GSub h g adr := fun b o e n => G b o (K b o e) (by
  have hb : @LT.lt Nat _ b h.objs.size := Heap.lt_size e
  intro hm
  rcases List.mem_cons.mp hm with rfl | hm
  · exact absurd (Nat.lt_trans (Nat.lt_of_lt_of_le hb S) l) (Nat.lt_irrefl _)
  · rcases List.mem_cons.mp hm with rfl | hm
    · exact absurd (Nat.lt_of_lt_of_le hb S) (Nat.lt_irrefl _)
    · exact n hm)
/-- a contract proved of the empty ledger is one of every ledger -/
theorem does_of_nil {w : World} {p : Program} {loose : List Str} {mean : ExcName → Option Value} {mg mb : Str → Option Value} {k : Nat} {f : Addr} {vs : List Value} {kw : List (Str × Value)} {W : Heap → Prop} {R : Value → List (Addr × Obj) → Prop}
    (H : ∀ (dp un : Nat) (gd : Option (List Code)) (cn : Str) (cs : Scope) (a : Addr) (ccd : Value) (cl : List (Str × Addr)) (outer : List Env) (A₀ : Around) (base h₀ : Heap) (L : Addr)
      (m : Str → Option Value) (s : Shared) (Q E : Value → Shared → Prop),
      Below A₀ base outer h₀ → Fr h₀ L s.heap m → (hd.heap_39 w.params).In h₀ → News h₀ L s.heap [] → Top p loose mean mg mb h₀ → cs.kind = .function →
      (∀ g, GSub s.heap g [] → W g) → dp + k < recursionLimit → un + 20 * k < cLine →
      (∀ r tl h' tk', Fr h₀ L h' m → News h₀ L h' tl → GSub s.heap h' [] → (∀ q ∈ tl, s.heap.objs.size ≤ q.1) → R r tl → Q r { s with heap := h', toks := tk' }) →
      wpAny (model PG w) (ktrTop dp un gd cn cs L a ccd cl outer) (call (.ref f) vs kw) Q E s) : Does w p loose mean mg mb k f vs kw W R := by
  intro dp un gd cn cs' a ccd cl outer A₀ base h₀ L m news s Q E B F X N T hk hW hd hu hret
  refine H dp un gd cn cs' a ccd cl outer A₀ base h₀ L m s Q E B F X (fun _ h => nomatch h) T hk (fun g G => hW g fun b o e _ => G b o e (fun h => nomatch h)) hd hu ?_
  intro r tl h' tk' F' N' G hs hr
  refine hret r tl h' tk' F' (fun q hq => ?_) (fun b o e _ => G b o e (fun h => nomatch h)) hs hr
  rcases List.mem_append.mp hq with hq | hq
  · exact N' q hq
  · exact ⟨G _ _ (N q hq).1 (fun h => nomatch h), (N q hq).2⟩
end Mine

end
namespace Mine
set_option maxRecDepth 100000
variable {w : World} {p : Program} {loose : List Str} {mean : ExcName → Option Value} {mg mb : Str → Option Value}
/-- a call that keeps all, whatever the ledger -/
theorem Does.use0 {k : Nat} {f : Addr} {vs : List Value} {kw : List (Str × Value)} {W : Heap → Prop} {R : Value → List (Addr × Obj) → Prop} (D : Does w p loose mean mg mb k f vs kw W R)
    {dp un : Nat} {gd : Option (List Code)} {cn : Str} {cs : Scope} {a : Addr} {ccd : Value} {cl : List (Str × Addr)} {outer : List Env} {A₀ : Around} {base h₀ : Heap} {L : Addr}
    {m : Str → Option Value} {news : List (Addr × Obj)} {s : Shared} {Q E : Value → Shared → Prop}
    (B : Below A₀ base outer h₀) (F : Fr h₀ L s.heap m) (X : (hd.heap_39 w.params).In h₀) (N : News h₀ L s.heap news) (T : Top p loose mean mg mb h₀) (hk : cs.kind = .function)
    (hW : ∀ g, (∀ b o, s.heap.get? b = some o → g.get? b = some o) → W g) (hd : dp + k < recursionLimit) (hu : un + 20 * k < cLine)
    (hret : ∀ r tl h' tk', Fr h₀ L h' m → News h₀ L h' (tl ++ news) → (∀ b o, s.heap.get? b = some o → h'.get? b = some o) → (∀ q ∈ tl, s.heap.objs.size ≤ q.1) → R r tl → Q r { s with heap := h', toks := tk' }) :
    wpAny (model PG w) (ktrTop dp un gd cn cs L a ccd cl outer) (call (.ref f) vs kw) Q E s := by
  refine D dp un gd cn cs a ccd cl outer A₀ base h₀ L m [] s Q E B F X (fun _ h => nomatch h) T hk (fun g G => hW g fun b o e => G b o e (fun h => nomatch h)) hd hu ?_
  intro r tl h' tk' F' N' G hs hr
  refine hret r tl h' tk' F' (fun q hq => ?_) (fun b o e => G b o e (fun h => nomatch h)) hs hr
  rcases List.mem_append.mp hq with hq | hq
  · exact N' q (List.mem_append_left _ hq)
  · exact ⟨G _ _ (N q hq).1 (fun h => nomatch h), (N q hq).2⟩
section
variable {prog : Program} {A : Around} {E : Value → Shared → Prop} {s : Shared} {env : Env} {h₀ : Heap} {x : Str} {body : List Stmt} {Q : Flow → Shared → Prop}
/-- a loop over a list of the base beside a list that grows and a cell that is stored -/
theorem loopM {l D K : Addr} {vs : List Value} {a b c : Addr × Obj} {r : List (Addr × Obj)} {oK : Obj} {v0 : Option Value} {n0 : Nat} {m₀ : Str → Option Value} (acc : Nat → Array Value)
    (hh : A.handled = none) (hl : h₀.IsList l vs.toArray) (F : Fr h₀ env.locals s.heap m₀) (N : News h₀ env.locals s.heap ((D, listOf #[] n0) :: a :: b :: c :: (K, oK) :: r)) (hoK : oK.data = .cell v0) (h0 : acc 0 = #[])
    (turn : ∀ i v h tk own n oK v', vs[i]? = some v → oK.data = .cell v' → TbOff own ((D, listOf (acc i) n) :: a :: b :: c :: (K, oK) :: r) → Fr h₀ env.locals h (fun y => if y = x then some v else m₀ y) → News h₀ env.locals h (((D, listOf (acc i) n) :: a :: b :: c :: (K, oK) :: r) ++ own) →
      wpAny (model prog w) A (execs body env) (TbPost h₀ env.locals (fun m' nx => (∃ v oK n', oK.data = .cell v ∧ nx = (D, listOf (acc (i + 1)) n') :: a :: b :: c :: (K, oK) :: r) ∧ ∀ z, z ≠ x → m' z = m₀ z) own { s with heap := h, toks := tk } Q) E { s with heap := h, toks := tk })
    (done : ∀ (u : Str → Option Value) h tk n oK v, oK.data = .cell v → Fr h₀ env.locals h (fun z => if z = x then u z else m₀ z) → News h₀ env.locals h ((D, listOf (acc vs.length) n) :: a :: b :: c :: (K, oK) :: r) → Q .next { s with heap := h, toks := tk }) :
    wpAny (model prog w) A (pyIter (.ref l)) (fun it s₂ => LoopAtV prog w A h₀ env x body Q E it s₂) E s := by
  refine loopB (fun i m nx => (∃ v oK n', oK.data = .cell v ∧ nx = (D, listOf (acc i) n') :: a :: b :: c :: (K, oK) :: r) ∧ ∀ z, z ≠ x → m z = m₀ z) hh hl F N ⟨⟨v0, oK, n0, hoK, by rw [h0]⟩, fun _ _ => rfl⟩ ?_ ?_
  · rintro i v m₁ nx h tk own hv ho ⟨⟨v', oK, n, hoK, rfl⟩, hm⟩ F₁ N₁
    have e : (fun y => if y = x then some v else m₁ y) = fun y => if y = x then some v else m₀ y := by
      funext y
      by_cases q : y = x
      · simp [q]
      · simp [q, hm y q]
    rw [e] at F₁
    exact turn i v h tk own n oK v' hv hoK ho F₁ N₁
  · rintro m₁ nx h tk ⟨⟨v', oK, n, hoK, rfl⟩, hm⟩ F₁ N₁
    have e : m₁ = fun z => if z = x then m₁ z else m₀ z := by
      funext y
      by_cases q : y = x
      · simp [q]
      · simp [q, hm y q]
    rw [e] at F₁
    exact done m₁ h tk n oK v' hoK F₁ N₁
theorem news_to5 {h H : Heap} {L : Addr} {D a b c K : Addr × Obj} {r own : List (Addr × Obj)} (N : News h L H ((D :: a :: b :: c :: K :: r) ++ own)) : News h L H (K :: D :: ((a :: b :: c :: r) ++ own)) := fun p hp => N p (by
  simp only [List.mem_cons, List.mem_append] at hp ⊢
  rcases hp with h | h | (h | h | h | h) | h <;> simp [h])
theorem news_of5 {h H : Heap} {L : Addr} {D a b c K : Addr × Obj} {r own : List (Addr × Obj)} (N : News h L H (K :: D :: ((a :: b :: c :: r) ++ own))) : News h L H ((D :: a :: b :: c :: K :: r) ++ own) := fun p hp => N p (by
  simp only [List.mem_cons, List.mem_append] at hp ⊢
  rcases hp with (h | h | h | h | h | h) | h <;> simp [h])
theorem tboff_same {own nx nx' : List (Addr × Obj)} (e : nx.map (·.1) = nx'.map (·.1)) (h : TbOff own nx) : TbOff own nx' := fun p hp q hq => by
  have : q.1 ∈ nx.map (·.1) := e ▸ List.mem_map_of_mem hq
  obtain ⟨q', hq', e'⟩ := List.mem_map.mp this
  rw [← e']
  exact h p hp q' hq'
theorem For_app {iter : Expr} {px pos : Pos} {K D : Addr} {R : List (Addr × Obj)} {m : Str → Option Value} {oK : Obj} {v0 : Option Value} {n0 : Nat} (acc : Nat → Array Value)
    (hkind : env.scope.kind = .function) (hxk : env.kindOf x = some .cell) (hlk : env.cells.lookup x = some K)
    (_F : Fr h₀ env.locals s.heap m) (_N : News h₀ env.locals s.heap ((K, oK) :: (D, listOf (acc 0) n0) :: R)) (hoK : oK.data = .cell v0) (hKD : (D : Nat) ≠ K) (hKR : ∀ p ∈ R, p.1 ≠ K) (hDR : ∀ p ∈ R, p.1 ≠ D)
    (h : wpAny (model prog w) A (eval iter env) (fun xv s₁ => ∃ l vs, xv = .ref l ∧ A.handled = none ∧ h₀.IsList l (vs : List Value).toArray ∧ Fr h₀ env.locals s₁.heap m ∧ News h₀ env.locals s₁.heap ((K, oK) :: (D, listOf (acc 0) n0) :: R) ∧
      (∀ i v n I oI oK h tk, vs[i]? = some v → oK.data = .cell (some v) → Fr h₀ env.locals h m → News h₀ env.locals h ((D, listOf (acc i) n) :: (I, oI) :: (K, oK) :: R) → (∀ p ∈ (I, oI) :: (K, oK) :: R, p.1 ≠ D) →
        wpAny (model prog w) A (execs body env) (fun f s' => (f = .next ∨ f = .cont) ∧ ∃ h' tk' n', s' = { s₁ with heap := h', toks := tk' } ∧ Fr h₀ env.locals h' m ∧ News h₀ env.locals h' ((D, listOf (acc (i + 1)) n') :: (I, oI) :: (K, oK) :: R)) E { s₁ with heap := h, toks := tk }) ∧
      (∀ n oK v h tk, oK.data = .cell v → Fr h₀ env.locals h m → News h₀ env.locals h ((K, oK) :: (D, listOf (acc vs.length) n) :: R) → Q .next { s₁ with heap := h, toks := tk })) E s)
    (hs : ∀ x, foldedSetIterable iter env x = pure x := by intro _; rfl)
    (hE : PassesOwn (model prog w) A env E := by passes_own) :
    wpAny (model prog w) A (exec (.For (.Name x px) iter body [] pos) env) Q E s := by
  refine For_cell (h₀ := h₀) (fun i nx => ∃ n, nx = (D, listOf (acc i) n) :: R) hkind hxk hlk (wpAny_mono h (fun xv s₁ q => ?_) fun _ _ e => e) hs hE
  obtain ⟨l, vs, rfl, hh, hl, F, N, turn, fin⟩ := q
  refine ⟨l, vs, m, _, oK, v0, rfl, hh, hl, F, hoK, N, ?_, ⟨n0, rfl⟩, ?_, ?_⟩
  · intro p hp
    rcases List.mem_cons.mp hp with rfl | hp
    · exact hKD
    · exact hKR p hp
  · rintro i v nx I oI oK h tk hv hoK ⟨n, rfl⟩ F₁ N₁ off hIK
    have hDI := off _ (.head _) (I, oI) (.head _)
    refine wpAny_mono (turn i v n I oI oK h tk hv hoK F₁ (fun p hp => N₁ p (by
      simp only [List.cons_append, List.nil_append, List.mem_cons] at hp ⊢
      rcases hp with h | h | h | h <;> simp [h])) ?_) (fun f s₂ q => ?_) fun _ _ e => e
    · intro p hp
      rcases List.mem_cons.mp hp with rfl | hp
      · exact fun e => hDI e.symm
      · rcases List.mem_cons.mp hp with rfl | hp
        · exact fun e => hKD e.symm
        · exact hDR p hp
    · obtain ⟨hf, h', tk', n', rfl, F', N'⟩ := q
      refine ⟨hf, KEnd.intro F' N' ((D, listOf (acc (i + 1)) n') :: R) ?_ ?_ trivial ⟨n', rfl⟩⟩
      · intro p hp
        simp only [List.cons_append, List.nil_append, List.mem_cons] at hp ⊢
        rcases hp with h | h | h | h <;> simp [h]
      · intro p hp
        rcases List.mem_cons.mp hp with rfl | hp
        · exact off (D, listOf (acc i) n) (.head _)
        · exact off p (.tail _ hp)
  · rintro nx oK v h tk ⟨n, rfl⟩ hoK F₁ N₁ off
    exact fin n oK v h tk hoK F₁ N₁
end
theorem filt_map {α : Type} {n : Nat} {l : List Nat} (h : n = l.length) (t : Nat → Bool) (g : Nat → α) : ((List.range n).filter fun i => t (l.getD i 0)).map (fun i => g (l.getD i 0)) = (l.filter t).map g := by
  subst h
  rw [← filter_getD l t 0, List.map_map]
  rfl
section
variable {prog : Program} {A : Around} {E : Value → Shared → Prop} {s : Shared} {h₀ : Heap} {L : Addr} {m : Str → Option Value} {news : List (Addr × Obj)}
theorem add_L {a b : Addr} {va vb : List Value} {Q : Value → Shared → Prop} (F : Fr h₀ L s.heap m) (N : News h₀ L s.heap news) (ha : s.heap.IsList a va.toArray) (hb : s.heap.IsList b vb.toArray) (hz : va.length + vb.length ≤ sizeLine)
    (h : ∀ D h', Fr h₀ L h' m → News h₀ L h' ((D, listOf (va ++ vb).toArray 0) :: news) → (∀ p ∈ news, p.1 < D) → Q (.ref D) { s with heap := h' }) :
    wpAny (model prog w) A (binaryOp .Add (.ref a) (.ref b)) Q E s :=
  add_arrays F N ha hb (fun h' F' N' => h _ h' F' (by simpa using N') fun p hp => Heap.lt_size (N p hp).1) (by simpa using hz)
end
/-- a call that makes objects and keeps all: what it makes was not there -/
def Makes (w : World) (p : Program) (loose : List Str) (mean : ExcName → Option Value) (mg mb : Str → Option Value) (k : Nat)
    (f : Addr) (vs : List Value) (W : Heap → Prop) (R : Value → List (Addr × Obj) → Prop) : Prop :=
  ∀ (dp un : Nat) (gd : Option (List Code)) (cn : Str) (cs : Scope) (a : Addr) (ccd : Value) (cl : List (Str × Addr)) (outer : List Env) (A₀ : Around) (base h₀ : Heap) (L : Addr)
    (m : Str → Option Value) (s : Shared) (Q E : Value → Shared → Prop),
    Below A₀ base outer h₀ → Fr h₀ L s.heap m → (hd.heap_39 w.params).In h₀ → Top p loose mean mg mb h₀ → cs.kind = .function →
    (∀ g, (∀ b o, s.heap.get? b = some o → g.get? b = some o) → W g) → dp + k < recursionLimit → un + 20 * k < cLine →
    (∀ r tl h' tk', Fr h₀ L h' m → News h₀ L h' tl → (∀ b o, s.heap.get? b = some o → h'.get? b = some o) → (∀ q ∈ tl, s.heap.get? q.1 = none) → R r tl → Q r { s with heap := h', toks := tk' }) →
    wpAny (model PG w) (ktrTop dp un gd cn cs L a ccd cl outer) (call (.ref f) vs []) Q E s
theorem Makes.use {k : Nat} {f : Addr} {vs : List Value} {W : Heap → Prop} {R : Value → List (Addr × Obj) → Prop} (D : Makes w p loose mean mg mb k f vs W R)
    {dp un : Nat} {gd : Option (List Code)} {cn : Str} {cs : Scope} {a : Addr} {ccd : Value} {cl : List (Str × Addr)} {outer : List Env} {A₀ : Around} {base h₀ : Heap} {L : Addr}
    {m : Str → Option Value} {news : List (Addr × Obj)} {s : Shared} {Q E : Value → Shared → Prop}
    (B : Below A₀ base outer h₀) (F : Fr h₀ L s.heap m) (X : (hd.heap_39 w.params).In h₀) (N : News h₀ L s.heap news) (T : Top p loose mean mg mb h₀) (hk : cs.kind = .function)
    (hW : ∀ g, (∀ b o, s.heap.get? b = some o → g.get? b = some o) → W g) (hd : dp + k < recursionLimit) (hu : un + 20 * k < cLine)
    (hret : ∀ r tl h' tk', Fr h₀ L h' m → News h₀ L h' (tl ++ news) → (∀ b o, s.heap.get? b = some o → h'.get? b = some o) → (∀ q ∈ tl, s.heap.get? q.1 = none) → R r tl → Q r { s with heap := h', toks := tk' }) :
    wpAny (model PG w) (ktrTop dp un gd cn cs L a ccd cl outer) (call (.ref f) vs []) Q E s := by
  refine D dp un gd cn cs a ccd cl outer A₀ base h₀ L m s Q E B F X T hk hW hd hu ?_
  intro r tl h' tk' F' N' G hs hr
  refine hret r tl h' tk' F' (fun q hq => ?_) G hs hr
  rcases List.mem_append.mp hq with hq | hq
  · exact N' q hq
  · exact ⟨G _ _ (N q hq).1, (N q hq).2⟩
theorem off_of_fresh {h₀ h : Heap} {L : Addr} {tl news : List (Addr × Obj)} (N : News h₀ L h news) (f : ∀ q ∈ tl, h.get? q.1 = none) {p : Addr × Obj} (hp : p ∈ news) : ∀ q ∈ tl, q.1 ≠ p.1 := fun q hq e => by
  have := (N p hp).1
  rw [← e, f q hq] at this
  cases this
theorem fresh_of {s g h : Heap} {L : Addr} {tl : List (Addr × Obj)} (N : News g L h tl) (k : ∀ b o, s.get? b = some o → g.get? b = some o) : ∀ q ∈ tl, s.get? q.1 = none := fun q hq => by
  cases e : s.get? q.1 with
  | none => rfl
  | some o => have := k _ _ e; rw [(N q hq).2.2] at this; cases this
end Mine

namespace Mine
set_option maxRecDepth 100000
set_option maxHeartbeats 8000000
variable {w : World} {p : Program} {loose : List Str} {mean : ExcName → Option Value} {mg mb : Str → Option Value}
abbrev lnOf (chs : List (List Nat)) : Option Nat → List Nat
  | none => []
  | some q => chs.getD q []
abbrev bsOf (x : Addr) : Option Nat → List Value
  | none => []
  | some _ => [.ref x]
theorem new_cls_does {chs : List (List Nat)} {cs : List Addr} {up : Option Nat} {x : Addr} {nm : Str} {t : Tok} {tv bl : Addr} {n1 n2 : Nat} (hup : ∀ q, up = some q → q < chs.length ∧ Good chs) (hlen : chs.length ≤ 7) :
    Makes w p loose mean mg mb 8 64 [.str nm t, .ref tv, .ref bl] (fun g => hAt g tv (listOf #[] n1) ∧ hAt g bl (listOf (bsOf x up).toArray n2) ∧ Wd (hAt g) chs cs ∧ ∀ q, up = some q → InstTo (hAt g) x (cs.getD q 0))
      (fun r tl => ∃ c, r = .ref c ∧ ∀ At : Addr → Obj → Prop, (∀ q ∈ tl, At q.1 q.2) → At tv (listOf #[] n1) → At bl (listOf (bsOf x up).toArray n2) → (∀ q, up = some q → InstTo At x (cs.getD q 0)) → ClsAt At c nm (up.map fun q => cs.getD q 0) (c :: (lnOf chs up).map fun q => cs.getD q 0)) := by
  intro dp un gd cn cs' a ccd cl outer A₀ base h₀ L m s Q E B F X T hk hW hd hu hret
  have N : News h₀ L s.heap [] := fun _ h => nomatch h
  (first | (k_dflt (refine' Mine.call_clsG ?k1 ?k2 ?k3 ?k4 ?k5 ?k6 ?_; (case k1 => k_asm); (case k2 => k_asm); (case k3 => k_asm); (case k4 => k_is); (case k5 => k_is); (case k6 => k_is); k_whole)) | fail "cls")
  intro x' d' h' F' N' l1 l2 K' S'
  (try k_lt l1)
  (try k_lt2 l2)
  (first | (k_dflt (refine' Mine.enterCS (binds := [(Str.ofString "self", .ref x'), (Str.ofString "fullname", .str nm t), (Str.ofString "type_vars", .ref tv), (Str.ofString "bases", .ref bl)]) ?k1 ?k2 ?k3 ?k4 ?k5 ?kA ?kF ?kK ?k6 ?k7 ?k8 ?k9 ?kB ?kD ?_ ?c2 ?c3 ?c4; (case kA => exact rfl); (case kF => exact rfl); (case kK => first | exact rfl | assumption); (case k1 => k_asm); (case k2 => k_asm); (case k3 => k_asm); (case k4 => k_asm); (case k5 => k_asm); (case k6 => k_is); (case k7 => k_is); (case k8 => k_room); (case k9 => first | exact BindsTo.of_eq rfl | exact binds_K (by k_in) rfl (by k_is) rfl rfl rfl); (case kB => exact rfl); (case kD => decide +kernel); (case c2 => exact rfl); (case c3 => exact rfl); (case c4 => exact rfl); k_whole)) | fail "enter")
  intro g L₁ h₁ tk₁ cells FG F₁ N₁ Y₁ B₁ X₁ T₁ G l₁ hL
  (try k_lt l₁)
  k_cells Y₁
  (try simp only [List.cons_append, List.nil_append] at N₁)
  (try dsimp only)
  (try k_unmd)
  k_fold
  have hlt := Nat.le_trans hL (Nat.le_of_lt F₁.ns.lt)
  have hkp : ∀ b o, s.heap.get? b = some o → g.get? b = some o := fun b o e => gsub_new K' G S' l2 b o e (fun h => nomatch h)
  obtain ⟨htv, hbl, hwd, hx⟩ := hW _ hkp
  repeat ((fail_if_success (with_reducible show wpAny _ _ (eval (PySem.Expr.ListComp _ _ _ _) _) _ _ _)); (first | (k_unfold; (try dsimp only)) | walk1 | (dsimp only; walk1)))
  rename Fr _ _ _ _ => F1
  rename News _ _ _ _ => N1
  k_dflt (refine comp_U0 (fun _ => Value.none) F1 N1 (by with_unfolding_all rfl) (by decide) rfl (by decide) (by rfl) ?_)
  repeat ((first | (with_reducible show wpAny _ _ _ _ _ _) | (with_reducible show PySem.W.Frag.In _ _ ∧ _)); (first | (k_unfold; (try dsimp only)) | walk1 | (dsimp only; walk1)))
  refine ⟨rfl, by assumption, by assumption, _, _, .base (isList_of htv), Nat.le_of_ble_eq_true rfl, ?_, ?_⟩
  · intro t v I oI C oC D m₂ ys h tk E₂ ht
    exact absurd ht (Nat.not_lt_zero _)
  · intro D h tk F₂ N₂ off
    clear F1 N1
    dsimp only [LCg.Off1] at off
    repeat ((fail_if_success (with_reducible show wpAny _ _ (pyIter _) _ _ _)); (first | (k_unfold; (try dsimp only)) | walk1 | (dsimp only; walk1)))
    rename Fr _ _ _ _ => F3
    rename News _ _ _ _ => N3
    rename @LT.lt Nat _ D _ ∧ _ => ql
    rename @LT.lt Nat _ (L₁ + 1) _ ∧ _ => qm
    with_unfolding_all refine loopM (fun i => if i = 0 then #[] else (clV cs (lnOf chs up)).toArray) rfl (isList_of hbl) F3 N3 (by assumption) rfl ?_ ?_
    · intro i v h tk own n oK v' hv hoK ho F₁ N₁
      clear F3 N3
      cases up with
      | none => cases hv
      | some q =>
      obtain ⟨hq, hgd⟩ := hup q rfl
      obtain ⟨rfl, rfl⟩ : i = 0 ∧ v = .ref x := by
        cases i with
        | zero => exact ⟨rfl, (Option.some.inj hv).symm⟩
        | succ i => cases hv
      have hxi := hx q rfl
      obtain ⟨dx, tx, px1, qx1, px2, qx2, nx1, nx2, ex1, ex2, ex3⟩ := hxi
      have hcl := hwd.cls q hq
      obtain ⟨dq, dfq, ddq, tvq, twq, blq, mlq, pq0, qq0, pq1, qq1, pq2, qq2, pq3, qq3, pq4, qq4, pq5, qq5, tkq, nq1, nq2, nq3, nq4, nq5, aq1, aq2, aq3, aq4, aq5, aq6, aq7, aq8⟩ := hcl
      dsimp only [lnOf]
      (first | (k_unfold; (try dsimp only)) | walk1 | (dsimp only; walk1))
      k_dflt (refine For_app (K := L₁ + 1) (fun i => (clV cs ((chs.getD q []).take i)).toArray) rfl (by rfl) (by rfl) F₁ (news_to5 N₁) hoK ?_ ?_ ?_ ?_)
      rotate_left 3
      · repeat ((first | (with_reducible show wpAny _ _ _ _ _ _) | (with_reducible show PySem.W.Frag.In _ _ ∧ _)); (first | (k_unfold; (try dsimp only)) | walk1 | (dsimp only; walk1)))
        refine ⟨_, _, rfl, rfl, isList_of aq7, F₁, news_to5 N₁, ?_, ?_⟩
        · intro i v n I oI oK h tk hv hoK F₂ N₂ hoffD
          obtain ⟨k, hk, rfl⟩ : ∃ k, (chs.getD q [])[i]? = some k ∧ v = .ref (cs.getD k 0) := by
            simp only [List.map_map, List.getElem?_map, Option.map_eq_some_iff] at hv
            obtain ⟨k, e1, rfl⟩ := hv
            exact ⟨k, e1, rfl⟩
          have hkl := hgd.mem_lt q k (List.mem_of_getElem? hk)
          have hil : i < (chs.getD q []).length := by
            rcases Nat.lt_or_ge i (chs.getD q []).length with h | h
            · exact h
            · rw [List.getElem?_eq_none h] at hk; cases hk
          have hll := hgd.len q hq
          obtain ⟨dk, ak1⟩ := wd_obj hwd hkl
          clear F₁ N₁ hv
          repeat ((fail_if_success (with_reducible show wpAny _ _ (eval (PySem.Expr.ListComp _ _ _ _) _) _ _ _)); (first | (k_unfold; (try dsimp only)) | walk1 | (dsimp only; walk1)))
          k_dflt (refine comp_U1 (fun j => ((chs.getD q []).take i).getD j 0 == k) (fun j => Value.ref (cs.getD (((chs.getD q []).take i).getD j 0) 0)) F₂ N₂ (by with_unfolding_all rfl) (by decide) rfl (by decide) (by rfl) ?_)
          repeat ((first | (with_reducible show wpAny _ _ _ _ _ _) | (with_reducible show PySem.W.Frag.In _ _ ∧ _)); (first | (k_unfold; (try dsimp only)) | walk1 | (dsimp only; walk1)))
          refine ⟨rfl, F₂, N₂, _, _, .led (.head _), by simp only [List.size_toArray, List.length_map, List.length_take]; unfold sizeLine; omega, ?_, ?_⟩
          · intro t v I' oI' C oC D' m₂ ys h tk E₂ ht hv hC hm F₃ N₃
            obtain ⟨j, hj, rfl⟩ : ∃ j, ((chs.getD q []).take i)[t]? = some j ∧ v = .ref (cs.getD j 0) := by
              simp only [List.getElem?_toArray, List.getElem?_map, Option.map_eq_some_iff] at hv
              obtain ⟨k, e1, rfl⟩ := hv
              exact ⟨k, e1, rfl⟩
            have hj' := hgd.mem_lt q j (List.mem_of_mem_take (List.mem_of_getElem? hj))
            obtain ⟨dj, aj1⟩ := wd_obj hwd hj'
            have hkj := wd_eq hwd hj' hkl
            have hgk : ((chs.getD q []).take i).getD t 0 = j := by rw [List.getD_eq_getElem?_getD, hj]; rfl
            clear F₂ N₂
            k_steps
            · rw [hgk, ← hkj]; assumption
            · exact Pure1.intro (by rw [hgk]) (by assumption) (by assumption)
            · rw [hgk, ← hkj]; assumption
            · exact Pure1.intro rfl (by assumption) (by assumption)
          · intro D' h tk F₃ N₃ off
            clear F₂ N₂
            have hnil : (List.range (clV cs ((chs.getD q []).take i)).toArray.size).filter (fun j => ((chs.getD q []).take i).getD j 0 == k) = [] := by
              rw [List.filter_eq_nil_iff]
              intro j hj
              rw [List.mem_range, List.size_toArray, List.length_map] at hj
              rw [List.getD_eq_getElem?_getD, List.getElem?_eq_getElem hj, Option.getD_some, List.getElem_take]
              intro e
              have hji : j < i := Nat.lt_of_lt_of_le hj (List.length_take_le _ _)
              rw [List.getElem?_eq_getElem hil] at hk
              have := (List.getElem_inj (hgd.nodup q hq)).mp ((beq_iff_eq.mp e).trans (Option.some.inj hk).symm)
              omega
            rw [hnil] at N₃
            have N₄ : News g _ _ ((D', listOf #[] 0) :: _) := N₃
            clear N₃
            have hoD := off.1.symm
            repeat' ((fail_if_success (with_reducible show wpAny _ _ (call (Value.builtin "list.append") _ _) _ _ _)); (first | (k_unfold; (try dsimp only)) | (k_end; wrow_close) | walk1 | (dsimp only; walk1) | (leave1; walk_say "STEP leave1"; try dsimp only)))
            rename Fr _ _ _ _ => F₅
            rename News _ _ _ _ => N₅
            k_dflt (refine append_K F₅ N₅ (Upd.tail hoD (Upd.head hoffD)) ?_ ?_)
            · intro h' F' N'
              clear F₅ N₅
              repeat ((first | (with_reducible show wpAny _ _ _ _ _ _) | (with_reducible show PySem.W.Frag.In _ _ ∧ _)); (first | (k_unfold; (try dsimp only)) | walk1 | (dsimp only; walk1)))
              refine ⟨.inl rfl, _, _, n + 1, rfl, by assumption, ?_⟩
              rw [List.take_add_one, hk, show clV cs (List.take i (chs.getD q []) ++ (some k).toList) = clV cs (List.take i (chs.getD q [])) ++ [Value.ref (cs.getD k 0)] from List.map_append, ← List.push_toArray]
              exact news_drop1 (by assumption)
            · simp only [List.size_toArray, List.length_map, List.length_take]
              unfold sizeLine
              omega
        · intro n oK v h tk hoK F₂ N₂
          simp only [List.length_map, List.take_length] at N₂
          iterate 2 (first | (k_unfold; (try dsimp only)) | walk1 | (dsimp only; walk1))
          refine tbEnd_of F₂ (news_of5 N₂) _ ?_ ?_ ?_ ⟨⟨v, oK, n, hoK, rfl⟩, fun z hz => if_neg hz⟩
          · exact fun p hp => List.mem_append_left _ hp
          · exact fun p hp => List.mem_append_right _ hp
          · refine tboff_same ?_ ho
            rfl
      · exact Nat.ne_of_gt ql.2.2.2.1
      · refine List.forall_mem_append.mpr ⟨List.forall_mem_cons.mpr ⟨off.2.2.1.symm, List.forall_mem_cons.mpr ⟨Nat.ne_of_gt (Nat.lt_trans qm.1 (by assumption)), List.forall_mem_cons.mpr ⟨Nat.ne_of_gt qm.1, List.forall_mem_cons.mpr ⟨Nat.ne_of_lt (Nat.lt_succ_of_lt l₁.1), List.forall_mem_cons.mpr ⟨Nat.ne_of_lt (Nat.lt_succ_of_lt l₁.2), fun _ h => nomatch h⟩⟩⟩⟩⟩, fun p hp => ho p hp _ (.tail _ (.tail _ (.tail _ (.tail _ (.head _)))))⟩
      · exact List.forall_mem_append.mpr ⟨List.forall_mem_cons.mpr ⟨Nat.ne_of_lt ql.1, List.forall_mem_cons.mpr ⟨Nat.ne_of_lt ql.2.1, List.forall_mem_cons.mpr ⟨Nat.ne_of_lt ql.2.2.1, List.forall_mem_cons.mpr ⟨Nat.ne_of_lt ql.2.2.2.2.1, List.forall_mem_cons.mpr ⟨Nat.ne_of_lt ql.2.2.2.2.2, fun _ h => nomatch h⟩⟩⟩⟩⟩, fun p hp => ho p hp _ (.head _)⟩
    · intro u h tk n oK v' hoK F₁ N₁
      clear F3 N3
      have hacc : (if (bsOf x up).length = 0 then #[] else (clV cs (lnOf chs up)).toArray) = (clV cs (lnOf chs up)).toArray := by cases up <;> rfl
      rw [hacc] at N₁
      have hln : ∀ k ∈ lnOf chs up, k < chs.length ∧ Good chs := by
        cases up with
        | none => exact fun _ h => nomatch h
        | some q => exact fun k hk => ⟨(hup q rfl).2.mem_lt q k hk, (hup q rfl).2⟩
      have hord : (lnOf chs up).filter (fun k => k != 0) ++ (lnOf chs up).filter (fun k => !(k != 0)) = lnOf chs up := by
        cases up with
        | none => rfl
        | some q => exact (hup q rfl).2.order (hup q rfl).1
      have hsz : (lnOf chs up).length ≤ 8 := by
        cases up with
        | none => exact Nat.zero_le _
        | some q => exact Nat.le_trans ((hup q rfl).2.len q (hup q rfl).1) (by have := (hup q rfl).1; omega)
      repeat ((fail_if_success (with_reducible show wpAny _ _ (eval (PySem.Expr.ListComp _ _ _ _) _) _ _ _)); (first | (k_unfold; (try dsimp only)) | walk1 | (dsimp only; walk1)))
      rename Fr _ _ _ _ => F₅
      rename News _ _ _ _ => N₅
      k_dflt (refine comp_U1 (fun j => (lnOf chs up).getD j 0 != 0) (fun j => Value.ref (cs.getD ((lnOf chs up).getD j 0) 0)) F₅ N₅ (by with_unfolding_all rfl) (by decide) rfl (by decide) (by rfl) ?_)
      repeat ((first | (with_reducible show wpAny _ _ _ _ _ _) | (with_reducible show PySem.W.Frag.In _ _ ∧ _)); (first | (k_unfold; (try dsimp only)) | walk1 | (dsimp only; walk1)))
      refine ⟨rfl, F₅, N₅, _, _, .led (.tail _ (.head _)), by simp only [List.size_toArray, List.length_map]; unfold sizeLine; omega, ?_, ?_⟩
      · intro t v I' oI' C oC D' m₂ ys h tk E₂ ht hv hC hm F₃ N₃
        obtain ⟨j, hj, rfl⟩ : ∃ j, (lnOf chs up)[t]? = some j ∧ v = .ref (cs.getD j 0) := by
          simp only [List.getElem?_toArray, List.getElem?_map, Option.map_eq_some_iff] at hv
          obtain ⟨k, e1, rfl⟩ := hv
          exact ⟨k, e1, rfl⟩
        obtain ⟨hjl, hgd⟩ := hln j (List.mem_of_getElem? hj)
        have hcl := hwd.cls j hjl
        obtain ⟨dq, dfq, ddq, tvq, twq, blq, mlq, pq0, qq0, pq1, qq1, pq2, qq2, pq3, qq3, pq4, qq4, pq5, qq5, tkq, nq1, nq2, nq3, nq4, nq5, aq1, aq2, aq3, aq4, aq5, aq6, aq7, aq8⟩ := hcl
        have hgk : (lnOf chs up).getD t 0 = j := by rw [List.getD_eq_getElem?_getD, hj]; rfl
        clear F₅ N₅
        rcases hgd.up cs hjl with ⟨rfl, e⟩ | ⟨h0, p', hp', hln', e⟩
        · rw [e] at aq8
          obtain ⟨nb, ab⟩ := aq8
          k_steps
          · rw [hgk]; rfl
          · exact Pure1.intro rfl (by assumption) (by assumption)
        · rw [e] at aq8
          obtain ⟨xx, nb, ab, hxx⟩ := aq8
          k_steps
          exact Pure1.intro (by rw [hgk]) (by assumption) (by assumption)
      · intro D' h tk F₃ N₃ off
        dsimp only [LCg.Off1] at off
        clear F₅ N₅
        rw [filt_map (len_cl cs (lnOf chs up)) (fun k => k != 0) (fun k => Value.ref (cs.getD k 0))] at N₃
        have N₄ : News g _ _ ((D', listOf (clV cs ((lnOf chs up).filter fun k => k != 0)).toArray _) :: _) := N₃
        clear N₃
        repeat ((fail_if_success (with_reducible show wpAny _ _ (binaryOp _ _ _) _ _ _)); (first | (k_unfold; (try dsimp only)) | walk1 | (dsimp only; walk1)))
        rename Fr _ _ _ _ => F₆
        rename News _ _ _ _ => N₆
        k_dflt (refine add_L (va := [Value.ref x']) (vb := clV cs ((lnOf chs up).filter fun k => k != 0)) F₆ N₆ (News.isList N₆ (.tail _ (.head _))) (News.isList N₆ (.head _)) (by have h9 := List.length_filter_le (fun k => k != 0) (lnOf chs up); simp only [List.length_map, List.length_singleton]; unfold sizeLine; omega) ?_)
        intro D₂ h' F' N' l1
        clear F₆ N₆
        (try k_lt l1)
        repeat ((fail_if_success (with_reducible show wpAny _ _ (eval (PySem.Expr.ListComp _ _ _ _) _) _ _ _)); (first | (k_unfold; (try dsimp only)) | walk1 | (dsimp only; walk1)))
        rename Fr _ _ _ _ => F₅
        rename News _ _ _ _ => N₅
        k_dflt (refine comp_U1 (fun j => !((lnOf chs up).getD j 0 != 0)) (fun j => Value.ref (cs.getD ((lnOf chs up).getD j 0) 0)) F₅ N₅ (by with_unfolding_all rfl) (by decide) rfl (by decide) (by rfl) ?_)
        repeat ((first | (with_reducible show wpAny _ _ _ _ _ _) | (with_reducible show PySem.W.Frag.In _ _ ∧ _)); (first | (k_unfold; (try dsimp only)) | walk1 | (dsimp only; walk1)))
        refine ⟨rfl, F₅, N₅, _, _, .led (.tail _ (.tail _ (.tail _ (.head _)))), by simp only [List.size_toArray, List.length_map]; unfold sizeLine; omega, ?_, ?_⟩
        · intro t v I' oI' C oC D' m₂ ys h tk E₂ ht hv hC hm F₃ N₃
          obtain ⟨j, hj, rfl⟩ : ∃ j, (lnOf chs up)[t]? = some j ∧ v = .ref (cs.getD j 0) := by
            simp only [List.getElem?_toArray, List.getElem?_map, Option.map_eq_some_iff] at hv
            obtain ⟨k, e1, rfl⟩ := hv
            exact ⟨k, e1, rfl⟩
          obtain ⟨hjl, hgd⟩ := hln j (List.mem_of_getElem? hj)
          have hcl := hwd.cls j hjl
          obtain ⟨dq, dfq, ddq, tvq, twq, blq, mlq, pq0, qq0, pq1, qq1, pq2, qq2, pq3, qq3, pq4, qq4, pq5, qq5, tkq, nq1, nq2, nq3, nq4, nq5, aq1, aq2, aq3, aq4, aq5, aq6, aq7, aq8⟩ := hcl
          have hgk : (lnOf chs up).getD t 0 = j := by rw [List.getD_eq_getElem?_getD, hj]; rfl
          clear F₅ N₅
          rcases hgd.up cs hjl with ⟨rfl, e⟩ | ⟨h0, p', hp', hln', e⟩
          · rw [e] at aq8
            obtain ⟨nb, ab⟩ := aq8
            k_steps
            · rw [hgk]; rfl
            · exact Pure1.intro (by rw [hgk]) (by assumption) (by assumption)
          · rw [e] at aq8
            obtain ⟨xx, nb, ab, hxx⟩ := aq8
            k_steps
            · rw [hgk]; simp [h0]
            · exact Pure1.intro rfl (by assumption) (by assumption)
        · intro D' h tk F₃ N₃ off
          dsimp only [LCg.Off1] at off
          clear F₅ N₅
          rw [filt_map (len_cl cs (lnOf chs up)) (fun k => !(k != 0)) (fun k => Value.ref (cs.getD k 0))] at N₃
          have N₄ : News g _ _ ((D', listOf (clV cs ((lnOf chs up).filter fun k => !(k != 0))).toArray _) :: _) := N₃
          clear N₃
          repeat ((fail_if_success (with_reducible show wpAny _ _ (binaryOp _ _ _) _ _ _)); (first | (k_unfold; (try dsimp only)) | walk1 | (dsimp only; walk1)))
          rename Fr _ _ _ _ => F₆
          rename News _ _ _ _ => N₆
          k_dflt (refine add_L (va := [Value.ref x'] ++ clV cs ((lnOf chs up).filter fun k => k != 0)) (vb := clV cs ((lnOf chs up).filter fun k => !(k != 0))) F₆ N₆ (News.isList N₆ (.tail _ (.head _))) (News.isList N₆ (.head _)) (by have h9 := List.length_filter_le (fun k => k != 0) (lnOf chs up); have h8 := List.length_filter_le (fun k => !(k != 0)) (lnOf chs up); simp only [List.length_append, List.length_map, List.length_singleton]; unfold sizeLine; omega) ?_)
          intro D₃ h' F' N' l1
          clear F₆ N₆
          (try k_lt l1)
          rw [List.append_assoc, ← List.map_append, hord] at N'
          k_steps
          rename News h₀ _ _ _ => N₇
          rename News g _ _ _ => N₈
          refine hret _ _ _ _ (by assumption) N₇ (fun b o e => Fr.keep (h₀ := g) (by assumption) b o (hkp b o e)) (fresh_of N₈ hkp) ⟨x', rfl, ?_⟩
          intro At hAt h1 h2 h3
          have hmro : At D₃ (listOf ((x' :: (lnOf chs up).map fun q => cs.getD q 0).map Value.ref).toArray 0) := by
            have h9 := hAt (D₃, listOf ([Value.ref x'] ++ List.map (fun k => Value.ref (cs.getD k 0)) (lnOf chs up)).toArray 0) (.head _)
            rw [List.map_cons, List.map_map]
            exact h9
          have hupa : UpAt At bl (up.map fun q => cs.getD q 0) := by
            cases up with
            | none => exact ⟨n2, h2⟩
            | some q => exact ⟨x, n2, h2, h3 q rfl⟩
          have mem1 : ∀ {o : Obj}, (x', o) ∈ _ → At x' o := fun h => hAt (x', _) h
          have mem2 : ∀ {o : Obj}, (d', o) ∈ _ → At d' o := fun h => hAt (d', _) h
          have mem3 : ∀ {o : Obj}, (D, o) ∈ _ → At D o := fun h => hAt (D, _) h
          have mem4 : ∀ {a : Addr} {o : Obj}, (a, o) ∈ _ → At a o := fun h => hAt (_, _) h
          refine' ⟨d', _, _, D, tv, bl, D₃, _, _, _, _, _, _, _, _, _, _, _, _, _, _, _, _, _, _, mem1 ?m1, mem2 ?m2, mem4 ?m3, mem4 ?m4, mem3 ?m5, h1, hmro, hupa⟩
          case m1 => repeat (first | exact .head _ | refine .tail _ ?_)
          case m2 => repeat (first | exact .head _ | refine .tail _ ?_)
          case m3 => repeat (first | exact .head _ | refine .tail _ ?_)
          case m4 => repeat (first | exact .head _ | refine .tail _ ?_)
          case m5 => repeat (first | exact .head _ | refine .tail _ ?_)
end Mine

namespace Mine
set_option maxRecDepth 100000
set_option maxHeartbeats 8000000
variable {w : World} {p : Program} {loose : List Str} {mean : ExcName → Option Value} {mg mb : Str → Option Value}
theorem new_inst_does {c al : Addr} {n1 : Nat} :
    Makes w p loose mean mg mb 6 312 [.ref c, .ref al] (fun g => hAt g al (listOf #[] n1)) (fun r tl => ∃ x, r = .ref x ∧ ∀ At : Addr → Obj → Prop, (∀ q ∈ tl, At q.1 q.2) → InstTo At x c) := by
  intro dp un gd cn cs' a ccd cl outer A₀ base h₀ L m s Q E B F X T hk hW hd hu hret
  have N : News h₀ L s.heap [] := fun _ h => nomatch h
  (first | (k_dflt (refine' Mine.call_clsG ?k1 ?k2 ?k3 ?k4 ?k5 ?k6 ?_; (case k1 => k_asm); (case k2 => k_asm); (case k3 => k_asm); (case k4 => k_is); (case k5 => k_is); (case k6 => k_is); k_whole)) | fail "cls")
  intro x' d' h' F' N' l1 l2 K' S'
  (try k_lt l1)
  (try k_lt2 l2)
  (first | (k_dflt (refine' Mine.code_defGS (binds := [(Str.ofString "self", .ref x'), (Str.ofString "typ", .ref c), (Str.ofString "args", .ref al)]) ?k1 ?k2 ?k3 ?k4 ?k5 ?kA ?kF ?kK ?k6 ?k7 ?k8 ?k9 ?kB ?_ ?c2 ?c3 ?c4 ?c5; (case kA => exact rfl); (case kF => exact rfl); (case kK => first | exact rfl | assumption); (case k1 => k_asm); (case k2 => k_asm); (case k3 => k_asm); (case k4 => k_asm); (case k5 => k_asm); (case k6 => k_is); (case k7 => k_is); (case k8 => k_room); (case k9 => first | exact BindsTo.of_eq rfl | exact binds_K (by k_in) rfl (by k_is) rfl rfl rfl); (case c5 => decide); (case kB => exact locs rfl); (case c2 => exact rfl); (case c3 => exact rfl); (case c4 => exact rfl); k_whole)) | fail "enter")
  intro g L₁ h₁ FG F₁ N₁ B₁ X₁ T₁ G hL
  have hlt := Nat.le_trans hL (Nat.le_of_lt F₁.ns.lt)
  dsimp only [List.reverse, List.reverseAux] at F₁
  (try dsimp only)
  (try k_unmd)
  k_fold
  have hkp : ∀ b o, s.heap.get? b = some o → g.get? b = some o := fun b o e => gsub_new K' G S' l2 b o e (fun h => nomatch h)
  have hal : hAt g al (listOf #[] n1) := hW _ hkp
  k_steps
  k_dflt (refine' PySem.W.kde_tupleOf (zs := []) ?k1 ?k2 ?k3 ?k4 ?k5 ?_)
  case k1 => k_asm
  case k2 => k_asm
  case k3 => (refine' Mine.isList_of ?h; (case h => (refine' Fr.keep ?kf _ _ ?kh; (case kf => with_reducible assumption); (case kh => with_reducible assumption))))
  case k4 => exact Nat.le_of_ble_eq_true rfl
  case k5 => rfl
  intro D' h' F' N' l1
  (try k_lt l1)
  k_steps
  rename News h₀ _ _ _ => N₇
  rename News g _ _ _ => N₈
  refine hret _ _ _ _ (by assumption) N₇ (fun b o e => Fr.keep (h₀ := g) (by assumption) b o (hkp b o e)) (fresh_of N₈ hkp) ⟨x', rfl, ?_⟩
  intro At hAt
  have mem1 : ∀ {o : Obj}, (x', o) ∈ _ → At x' o := fun h => hAt (x', _) h
  have mem2 : ∀ {o : Obj}, (d', o) ∈ _ → At d' o := fun h => hAt (d', _) h
  have mem4 : ∀ {a : Addr} {o : Obj}, (a, o) ∈ _ → At a o := fun h => hAt (_, _) h
  refine' ⟨d', _, _, _, _, _, _, 0, mem1 ?m1, mem2 ?m2, mem4 ?m3⟩
  case m1 => repeat (first | exact .head _ | refine .tail _ ?_)
  case m2 => repeat (first | exact .head _ | refine .tail _ ?_)
  case m3 => repeat (first | exact .head _ | refine .tail _ ?_)
end Mine

namespace Mine
set_option maxRecDepth 100000
set_option maxHeartbeats 8000000
variable {w : World} {p : Program} {loose : List Str} {mean : ExcName → Option Value} {mg mb : Str → Option Value}
def IdAt (At : Addr → Obj → Prop) (i : Addr) (r : Int) : Prop :=
  ∃ di h6 k6 h7 k7, ∃ t3 t4 : Tok, ∃ n2, At i (instObj 161 di) ∧ At di (dictOf [⟨h6, .str (Str.ofString "raw_id") k6, .int r t3⟩, ⟨h7, .str (Str.ofString "meta_level") k7, .int 0 t4⟩] n2)
theorem new_id_does {r : Int} {t : Tok} :
    Makes w p loose mean mg mb 6 161 [.int r t] (fun _ => True) (fun v tl => ∃ x, v = .ref x ∧ ∀ At : Addr → Obj → Prop, (∀ q ∈ tl, At q.1 q.2) → IdAt At x r) := by
  intro dp un gd cn cs' a ccd cl outer A₀ base h₀ L m s Q E B F X T hk hW hd hu hret
  have N : News h₀ L s.heap [] := fun _ h => nomatch h
  (first | (k_dflt (refine' Mine.call_clsG ?k1 ?k2 ?k3 ?k4 ?k5 ?k6 ?_; (case k1 => k_asm); (case k2 => k_asm); (case k3 => k_asm); (case k4 => k_is); (case k5 => k_is); (case k6 => k_is); k_whole)) | fail "cls")
  intro x' d' h' F' N' l1 l2 K' S'
  (try k_lt l1)
  (try k_lt2 l2)
  (first | (k_dflt (refine' Mine.code_defGS (binds := [(Str.ofString "self", .ref x'), (Str.ofString "raw_id", .int r t), (Str.ofString "meta_level", .int 0 359)]) ?k1 ?k2 ?k3 ?k4 ?k5 ?kA ?kF ?kK ?k6 ?k7 ?k8 ?k9 ?kB ?_ ?c2 ?c3 ?c4 ?c5; (case kA => exact rfl); (case kF => exact rfl); (case kK => first | exact rfl | assumption); (case k1 => k_asm); (case k2 => k_asm); (case k3 => k_asm); (case k4 => k_asm); (case k5 => k_asm); (case k6 => k_is); (case k7 => k_is); (case k8 => k_room); (case k9 => first | exact BindsTo.of_eq rfl | exact binds_K (by k_in) rfl (by k_is) rfl rfl rfl); (case c5 => decide); (case kB => exact locs rfl); (case c2 => exact rfl); (case c3 => exact rfl); (case c4 => exact rfl); k_whole)) | fail "enter")
  intro g L₁ h₁ FG F₁ N₁ B₁ X₁ T₁ G hL
  have hlt := Nat.le_trans hL (Nat.le_of_lt F₁.ns.lt)
  dsimp only [List.reverse, List.reverseAux] at F₁
  (try dsimp only)
  (try k_unmd)
  k_fold
  have hkp : ∀ b o, s.heap.get? b = some o → g.get? b = some o := fun b o e => gsub_new K' G S' l2 b o e (fun h => nomatch h)
  k_steps
  rename News h₀ _ _ _ => N₇
  rename News g _ _ _ => N₈
  refine hret _ _ _ _ (by assumption) N₇ (fun b o e => Fr.keep (h₀ := g) (by assumption) b o (hkp b o e)) (fresh_of N₈ hkp) ⟨x', rfl, ?_⟩
  intro At hAt
  have mem1 : ∀ {o : Obj}, (x', o) ∈ _ → At x' o := fun h => hAt (x', _) h
  have mem2 : ∀ {o : Obj}, (d', o) ∈ _ → At d' o := fun h => hAt (d', _) h
  refine' ⟨d', _, _, _, _, _, _, _, mem1 ?m1, mem2 ?m2⟩
  case m1 => repeat (first | exact .head _ | refine .tail _ ?_)
  case m2 => repeat (first | exact .head _ | refine .tail _ ?_)
theorem new_tv_does {nm : Str} {t : Tok} {i vl ub : Addr} :
    Makes w p loose mean mg mb 6 204 [.str nm t, .ref i, .ref vl, .ref ub] (fun _ => True) (fun v tl => ∃ x, v = .ref x ∧ ∀ (At : Addr → Obj → Prop) (r : Int) (vals : List Addr) (n3 : Nat), (∀ q ∈ tl, At q.1 q.2) → IdAt At i r → At vl (listOf (vals.map Value.ref).toArray n3) → TvAt At x nm vals ub) := by
  intro dp un gd cn cs' a ccd cl outer A₀ base h₀ L m s Q E B F X T hk hW hd hu hret
  have N : News h₀ L s.heap [] := fun _ h => nomatch h
  (first | (k_dflt (refine' Mine.call_clsG ?k1 ?k2 ?k3 ?k4 ?k5 ?k6 ?_; (case k1 => k_asm); (case k2 => k_asm); (case k3 => k_asm); (case k4 => k_is); (case k5 => k_is); (case k6 => k_is); k_whole)) | fail "cls")
  intro x' d' h' F' N' l1 l2 K' S'
  (try k_lt l1)
  (try k_lt2 l2)
  (first | (k_dflt (refine' Mine.code_defGS (binds := [(Str.ofString "self", .ref x'), (Str.ofString "name", .str nm t), (Str.ofString "own", .ref i), (Str.ofString "values", .ref vl), (Str.ofString "upper_bound", .ref ub), (Str.ofString "variance", .int 0 196)]) ?k1 ?k2 ?k3 ?k4 ?k5 ?kA ?kF ?kK ?k6 ?k7 ?k8 ?k9 ?kB ?_ ?c2 ?c3 ?c4 ?c5; (case kA => exact rfl); (case kF => exact rfl); (case kK => first | exact rfl | assumption); (case k1 => k_asm); (case k2 => k_asm); (case k3 => k_asm); (case k4 => k_asm); (case k5 => k_asm); (case k6 => k_is); (case k7 => k_is); (case k8 => k_room); (case k9 => first | exact BindsTo.of_eq rfl | exact binds_K (by k_in) rfl (by k_is) rfl rfl rfl); (case c5 => decide); (case kB => exact locs rfl); (case c2 => exact rfl); (case c3 => exact rfl); (case c4 => exact rfl); k_whole)) | fail "enter")
  intro g L₁ h₁ FG F₁ N₁ B₁ X₁ T₁ G hL
  have hlt := Nat.le_trans hL (Nat.le_of_lt F₁.ns.lt)
  dsimp only [List.reverse, List.reverseAux] at F₁
  (try dsimp only)
  (try k_unmd)
  k_fold
  have hkp : ∀ b o, s.heap.get? b = some o → g.get? b = some o := fun b o e => gsub_new K' G S' l2 b o e (fun h => nomatch h)
  k_steps
  rename News h₀ _ _ _ => N₇
  rename News g _ _ _ => N₈
  refine hret _ _ _ _ (by assumption) N₇ (fun b o e => Fr.keep (h₀ := g) (by assumption) b o (hkp b o e)) (fresh_of N₈ hkp) ⟨x', rfl, ?_⟩
  intro At r vals n3 hAt hid hvl
  obtain ⟨di, h6, k6, h7, k7, t3, t4, n2, a1, a2⟩ := hid
  have mem1 : ∀ {o : Obj}, (x', o) ∈ _ → At x' o := fun h => hAt (x', _) h
  have mem2 : ∀ {o : Obj}, (d', o) ∈ _ → At d' o := fun h => hAt (d', _) h
  refine' ⟨d', i, di, vl, _, _, _, _, _, _, _, _, _, _, h6, k6, h7, k7, _, _, t3, t4, _, n2, n3, r, mem1 ?m1, mem2 ?m2, a1, a2, hvl⟩
  case m1 => repeat (first | exact .head _ | refine .tail _ ?_)
  case m2 => repeat (first | exact .head _ | refine .tail _ ?_)
end Mine

namespace Mine
set_option maxRecDepth 100000
theorem isl_up {h₀ h g : Heap} {L l : Addr} {m : Str → Option Value} {its : Array Value} (hl : h₀.IsList l its) (F : Fr h₀ L h m) (k : ∀ b o, h.get? b = some o → g.get? b = some o) : g.IsList l its := hl.at fun o e => k _ o (F.keep _ o e)
section
variable {prog : Program} {w : World} {A : Around} {E : Value → Shared → Prop} {s : Shared}
theorem item_nat {value slice : PySem.Expr} {l : Addr} {vs : List Value} {n : Int} {u : Tok} {Q : Value → Shared → Prop} (hl : s.heap.IsList l vs.toArray) (h0 : 0 ≤ n) (h1 : n < vs.length) (hz : vs.length ≤ 1000) (h : Q (vs.getD n.toNat .none) s)
    (hs : subscripted slice false (.ref l) (.int n u) = operate [.ref l, .int n u] (getItem (.ref l) (.int n u)) := by with_unfolding_all rfl) : wpAny (model prog w) A (subscriptTail value slice (.ref l) (.int n u)) Q E s :=
  tail_any hl.typeIs slot_list_getitem.lookup (wpAny_getItem_list hl h0 (by omega) (by
    have h2 : n.toNat < vs.length := by omega
    simp only [List.getElem?_toArray]
    rw [List.getElem?_eq_getElem h2, List.getD_eq_getElem?_getD, List.getElem?_eq_getElem h2, Option.getD_some]) h) hs
end
theorem fmod_idx {a : Int} {n : Nat} (h : 0 < n) : ∃ p : Nat, p < n ∧ (p : Int) = a.fmod (n : Int) := by
  have h0 : 0 ≤ a.fmod (n : Int) := Int.fmod_nonneg_of_pos a (by omega)
  have h1 : a.fmod (n : Int) < n := Int.fmod_lt_of_pos a (by omega)
  exact ⟨(a.fmod (n : Int)).toNat, by omega, by omega⟩
section
variable {prog : Program} {w : World} {A : Around} {E : Value → Shared → Prop} {s : Shared}
theorem item_fmod {value slice : PySem.Expr} {l : Addr} {vs : List Value} {a : Int} {k : Nat} {u : Tok} {Q : Value → Shared → Prop} (hl : s.heap.IsList l vs.toArray) (hk : 0 < k) (hv : vs.length = k) (hz : k ≤ 1000) (h : ∀ p : Nat, p < k → (p : Int) = a.fmod (k : Int) → Q (vs.getD p .none) s)
    (hs : subscripted slice false (.ref l) (.int (a.fmod (k : Int)) u) = operate [.ref l, .int (a.fmod (k : Int)) u] (getItem (.ref l) (.int (a.fmod (k : Int)) u)) := by with_unfolding_all rfl) : wpAny (model prog w) A (subscriptTail value slice (.ref l) (.int (a.fmod (k : Int)) u)) Q E s := by
  obtain ⟨p, hp, e⟩ := fmod_idx (a := a) hk
  exact item_nat hl (by omega) (by omega) (by omega) (by rw [← e]; exact h p hp e) hs
end
theorem getD_map {α β : Type} (l : List α) (f : α → β) (i : Nat) (d : α) (e : β) (h : i < l.length) : (l.map f).getD i e = f (l.getD i d) := by
  rw [List.getD_eq_getElem?_getD, List.getD_eq_getElem?_getD, List.getElem?_map, List.getElem?_eq_getElem h]
  rfl
theorem UpAt.some_mono {At At' : Addr → Obj → Prop} {c : Addr} {nm : Str} {up : Option Addr} {mro : List Addr} (k : ∀ a o, At a o → At' a o) (h : ClsAt At c nm up mro) : ClsAt At' c nm up mro := h.mono k
/-- the world grows by a class -/
theorem Wd.grow {At : Addr → Obj → Prop} {chs : List (List Nat)} {cs : List Addr} {p : Nat} {c : Addr} (h : Wd At chs cs) (g : Good chs) (hp : p < chs.length)
    (hc : ClsAt At c (nmOf chs.length) (some (cs.getD p 0)) (c :: (chs.getD p []).map fun q => cs.getD q 0)) (hn : c ∉ cs) : Wd At (chs ++ [chs.length :: chs.getD p []]) (cs ++ [c]) := by
  have old : ∀ i, i < chs.length → (chs ++ [chs.length :: chs.getD p []]).getD i [] = chs.getD i [] := fun i hi => by
    rw [List.getD_eq_getElem?_getD, List.getElem?_append_left hi, List.getD_eq_getElem?_getD]
  have oldc : ∀ i, i < chs.length → (cs ++ [c]).getD i 0 = cs.getD i 0 := fun i hi => by
    rw [List.getD_eq_getElem?_getD, List.getElem?_append_left (h.len ▸ hi), List.getD_eq_getElem?_getD]
  have oldm : ∀ i, ((chs.getD i []).map fun q => (cs ++ [c]).getD q 0) = (chs.getD i []).map fun q => cs.getD q 0 := fun i => List.map_congr_left fun q hq => oldc q (g.mem_lt i q hq)
  have newc : (cs ++ [c]).getD chs.length 0 = c := by
    rw [List.getD_eq_getElem?_getD, ← h.len, List.getElem?_append_right (Nat.le_refl _)]
    simp
  have newl : (chs ++ [chs.length :: chs.getD p []]).getD chs.length [] = chs.length :: chs.getD p [] := by
    rw [List.getD_eq_getElem?_getD, List.getElem?_append_right (Nat.le_refl _)]
    simp
  refine ⟨by rw [List.length_append, List.length_append, h.len]; rfl, ?_, fun i hi => ?_⟩
  · rw [List.nodup_append]
    exact ⟨h.nodup, by simp, fun a ha b hb e => hn (by rw [← List.mem_singleton.mp hb, ← e]; exact ha)⟩
  · rw [List.length_append, List.length_singleton] at hi
    by_cases hl : i < chs.length
    · rw [old i hl, oldc i hl, oldm i]
      have hu : upOf (cs ++ [c]) (chs.getD i []) = upOf cs (chs.getD i []) := by
        rcases g.up cs hl with ⟨rfl, e⟩ | ⟨h0, q, hq, e1, e2⟩
        · rw [g.zero]; rfl
        · rcases g.up (cs ++ [c]) hl with ⟨e3, _⟩ | ⟨_, q', hq', e1', e2'⟩
          · exact absurd e3 h0
          · rw [e2, e2']
            have e5 := e1.symm.trans e1'
            have e6 := (List.cons.inj e5).2
            have : q = q' := by
              have q1 := g.self (Nat.lt_trans hq hl)
              have q2 := g.self (Nat.lt_trans hq' hl)
              rw [e6] at q1
              rw [← e6] at q2
              exact Nat.le_antisymm (g.mem_le q' (Nat.lt_trans hq' hl) q q1) (g.mem_le q (Nat.lt_trans hq hl) q' q2)
            subst this
            rw [oldc q (Nat.lt_trans hq hl)]
      rw [hu]
      exact h.cls i hl
    · have : i = chs.length := by omega
      subst this
      rw [newc, newl, List.map_cons, newc, oldm p]
      have : upOf (cs ++ [c]) (chs.length :: chs.getD p []) = some (cs.getD p 0) := by
        have hr : ∃ r, chs.getD p [] = p :: r := by
          rcases g.up cs hp with ⟨rfl, e⟩ | ⟨h0, q, hq, e1, e2⟩
          · exact ⟨_, g.zero⟩
          · exact ⟨_, e1⟩
        obtain ⟨r, hr⟩ := hr
        rw [hr]
        show some ((cs ++ [c]).getD p 0) = _
        rw [oldc p hp]
      rw [this]
      exact hc
theorem Good.one : Good [[0]] := ⟨by decide, rfl, fun i h0 hi => by simp at hi; omega⟩
theorem Wd.one {At : Addr → Obj → Prop} {c : Addr} (h : ClsAt At c (nmOf 0) none [c]) : Wd At [[0]] [c] := ⟨rfl, by simp, fun i hi => by
  have : i = 0 := by simp at hi; omega
  subst this
  exact h⟩
theorem Wd.none_at {At : Addr → Obj → Prop} : Wd At [] [] := ⟨rfl, by simp, fun i hi => absurd hi (Nat.not_lt_zero _)⟩
theorem news_up {h₀ h g : Heap} {L a : Addr} {o : Obj} {news : List (Addr × Obj)} (N : News h₀ L h news) (hm : (a, o) ∈ news) (G9 : ∀ b o, h.get? b = some o → g.get? b = some o) : hAt g a o := G9 _ _ (N _ hm).1
theorem world0 {h H : Heap} {L : Addr} {tl : List (Addr × Obj)} {a b c : Addr} {o1 o2 : Obj} {P : (Addr → Obj → Prop) → Prop} (_N : News h L H (tl ++ [(a, o1), (b, o2)])) (hp : ∀ At, P At)
    (hc : ∀ At : Addr → Obj → Prop, (∀ q ∈ tl, At q.1 q.2) → At b o2 → At a o1 → P At → ClsAt At c (nmOf 0) none [c]) : ∀ At : Addr → Obj → Prop, (∀ q ∈ tl ++ [(a, o1), (b, o2)], At q.1 q.2) → Wd At [[0]] [c] := fun At hAt =>
  Wd.one (hc At (fun q hq => hAt q (List.mem_append_left _ hq)) (hAt (b, o2) (List.mem_append_right _ (.tail _ (.head _)))) (hAt (a, o1) (List.mem_append_right _ (.head _))) (hp At))
theorem range_ok : ∀ n : Nat, n < 9 → Builtin.Range.small 0 (n : Int) 1 = true ∧ Builtin.Range.rangeSize 0 (n : Int) 1 = ((n : Nat) : Int) := by decide
section
variable {prog : Program} {A : Around} {E : Value → Shared → Prop} {s : Shared} {h₀ : Heap} {L : Addr} {m : Str → Option Value} {news : List (Addr × Obj)}
abbrev rngO (n : Int) (t u v : Tok) : Obj := { cls := .type "range", data := .fields #[.int 0 t, .int n u, .int 1 v] }
theorem range_lt {n : Int} {t : Tok} {Q : Value → Shared → Prop} (F : Fr h₀ L s.heap m) (N : News h₀ L s.heap news)
    (h : ∀ r h' tk t1 t2, Fr h₀ L h' m → News h₀ L h' ((r, rngO n t1 t t2) :: news) → (∀ p ∈ news, p.1 < r) → Q (.ref r) { s with heap := h', toks := tk }) : wpAny (model prog w) A (call (.type "range") [.int n t]) Q E s :=
  call_range_1 (h _ _ _ _ _ (F.push _) (N.push F _) fun p hp => Heap.lt_size (N p hp).1)
end
section
variable {prog : Program} {w : World} {A : Around} {E : Value → Shared → Prop} {s : Shared} {env : Env} {h₀ : Heap} {x z : Str} {body : List Stmt} {Q : Flow → Shared → Prop}
/-- a loop over a range that stores its own name and one more -/
theorem loopRz {r : Addr} {a b : Int} {t u v : Tok} {n : Nat} {m₀ : Str → Option Value} {news : List (Addr × Obj)} (J : Nat → List (Addr × Obj) → Prop)
    (hh : A.handled = none) (hr : IsRange s.heap r a b 1 t u v) (h1 : Builtin.Range.small a b 1 = true) (h2 : Builtin.Range.rangeSize a b 1 = ((n : Nat) : Int)) (F : Fr h₀ env.locals s.heap m₀) (N : News h₀ env.locals s.heap news) (hj : J 0 news)
    (turn : ∀ i tv u nx h tk own, i < n → TbOff own nx → J i nx → Fr h₀ env.locals h (fun y => if y = x then some (.int (a + (i : Int)) tv) else if y = z then u else m₀ y) → News h₀ env.locals h (nx ++ own) → (∀ p ∈ own, s.heap.objs.size ≤ p.1) →
      wpAny (model prog w) A (execs body env) (TbPost h₀ env.locals (fun m' nx => J (i + 1) nx ∧ ∀ y, y ≠ x → y ≠ z → m' y = m₀ y) own { s with heap := h, toks := tk } Q) E { s with heap := h, toks := tk })
    (done : ∀ u₁ u₂ nx h tk, J n nx → Fr h₀ env.locals h (fun y => if y = x then u₁ else if y = z then u₂ else m₀ y) → News h₀ env.locals h nx → Q .next { s with heap := h, toks := tk }) :
    wpAny (model prog w) A (pyIter (.ref r)) (fun it s₂ => LoopAtV prog w A h₀ env x body Q E it s₂) E s := by
  refine loopR (fun i m nx => J i nx ∧ ∀ y, y ≠ x → y ≠ z → m y = m₀ y) hh hr h1 h2 F N ⟨hj, fun _ _ _ => rfl⟩ ?_ ?_
  · rintro i v m₁ nx h tk own hi ⟨tv, rfl⟩ ho ⟨hj, hm⟩ F₁ N₁ hs
    have e : (fun y => if y = x then some (Value.int (a + (i : Int)) tv) else m₁ y) = fun y => if y = x then some (Value.int (a + (i : Int)) tv) else if y = z then m₁ z else m₀ y := by
      funext y
      by_cases q : y = x
      · simp [q]
      · by_cases q' : y = z
        · subst q'; simp [q]
        · simp [q, q', hm y q q']
    rw [e] at F₁
    exact turn i tv (m₁ z) nx h tk own hi ho hj F₁ N₁ hs
  · rintro m₁ nx h tk ⟨hj, hm⟩ F₁ N₁
    have e : m₁ = fun y => if y = x then m₁ x else if y = z then m₁ z else m₀ y := by
      funext y
      by_cases q : y = x
      · simp [q]
      · by_cases q' : y = z
        · subst q'; simp [q]
        · simp [q, q', hm y q q']
    rw [e] at F₁
    exact done _ _ nx h tk hj F₁ N₁
end
section
variable {cl a1 b1 b2 : Addr} {oc o0 o1 o2 : Obj} {tlc tlx wl own : List (Addr × Obj)}
theorem turn_off (f1 : ∀ p ∈ (b2, o2) :: (tlx ++ (b1, o1) :: (a1, o0) :: ((cl, oc) :: wl ++ own)), ∀ q ∈ tlc, q.1 ≠ p.1) (f2 : ∀ p ∈ tlx ++ (b1, o1) :: (a1, o0) :: ((cl, oc) :: wl ++ own), p.1 < b2)
    (f3 : ∀ p ∈ (b1, o1) :: (a1, o0) :: ((cl, oc) :: wl ++ own), ∀ q ∈ tlx, q.1 ≠ p.1) (f4 : ∀ p ∈ (a1, o0) :: ((cl, oc) :: wl ++ own), p.1 < b1) (f5 : ∀ p ∈ (cl, oc) :: wl ++ own, p.1 < a1) (f6 : ∀ q ∈ wl, q.1 ≠ cl) (f7 : TbOff own ((cl, oc) :: wl)) :
    (∀ p ∈ tlc ++ (b2, o2) :: (tlx ++ (b1, o1) :: (a1, o0) :: wl), p.1 ≠ cl) ∧ (∀ p ∈ own, p.1 ≠ cl) ∧ TbOff own ((cl, oc) :: (tlc ++ (b2, o2) :: (tlx ++ (b1, o1) :: (a1, o0) :: wl))) := by
  refine ⟨fun p hp => ?_, fun p hp => f7 p hp _ (.head _), fun p hp q hq => ?_⟩
  · simp only [List.mem_append, List.mem_cons] at hp
    rcases hp with h | rfl | h | rfl | rfl | h
    · exact f1 (cl, oc) (by simp) p h
    · exact Nat.ne_of_gt (f2 (cl, oc) (by simp))
    · exact f3 (cl, oc) (by simp) p h
    · exact Nat.ne_of_gt (f4 (cl, oc) (by simp))
    · exact Nat.ne_of_gt (f5 (cl, oc) (by simp))
    · exact f6 p h
  · simp only [List.mem_append, List.mem_cons] at hq
    rcases hq with rfl | h | rfl | h | rfl | rfl | h
    · exact f7 p hp _ (.head _)
    · exact fun e => f1 p (by simp [hp]) q h e.symm
    · exact Nat.ne_of_lt (f2 p (by simp [hp]))
    · exact fun e => f3 p (by simp [hp]) q h e.symm
    · exact Nat.ne_of_lt (f4 p (by simp [hp]))
    · exact Nat.ne_of_lt (f5 p (by simp [hp]))
    · exact f7 p hp q (.tail _ h)
theorem turn_mem {h H : Heap} {L : Addr} (N : News h L H (tlc ++ (b2, o2) :: (tlx ++ (b1, o1) :: (a1, o0) :: ((cl, oc) :: wl ++ own)))) : News h L H ((cl, oc) :: ((tlc ++ (b2, o2) :: (tlx ++ (b1, o1) :: (a1, o0) :: wl)) ++ own)) := fun p hp => N p (by
  simp only [List.mem_append, List.mem_cons, List.cons_append] at hp ⊢
  rcases hp with h | (h | h | h | h | h | h) | h <;> simp [h])
end
theorem of_allLt {d : Nat} : ∀ {l : List (Addr × Obj)}, AllLt d l → ∀ p ∈ l, @LT.lt Nat _ p.1 d
  | [], _ => fun _ h => nomatch h
  | _ :: _, h => fun p hp => by
    rcases List.mem_cons.mp hp with rfl | hp
    · exact h.1
    · exact of_allLt h.2 p hp
theorem nm_at (i : Nat) : (Str.ofString "m.C" ++ Str.ofString (toString (0 + (i : Int)))) = nmOf (i + 1) := by rw [Int.zero_add]; rfl
section
variable {chs : List (List Nat)} {cs : List Addr} {c tv bl xi : Addr} {q n1 n2 : Nat} {nm : Str} {up : Option Addr} {mro : List Addr} {vb : Array Value} {tlc : List (Addr × Obj)}
theorem fresh_cls {h : Heap} (hc : ∀ At : Addr → Obj → Prop, (∀ q ∈ tlc, At q.1 q.2) → At tv (listOf #[] n1) → At bl (listOf vb n2) → (∀ q', some q = some q' → InstTo At xi (cs.getD q' 0)) → ClsAt At c nm up mro)
    (S : ∀ q ∈ tlc, h.get? q.1 = none) (hw : Wd (hAt h) chs cs) : c ∉ cs := by
  have h64 : ∀ o : Obj, o.cls = .ref 312 ∨ o.cls = .type "list" ∨ o.cls = .type "dict" ∨ o.cls = .type "tuple" → o.cls ≠ .ref 64 := fun o ho e => by
    rw [e] at ho
    rcases ho with h | h | h | h <;> cases h
  obtain ⟨d, df, dd, tv', tv2, bl', ml, h0, k0, h1, k1, h2, k2, h3, k3, h4, k4, h5, k5, tk, m1, m2, m3, m4, m5, a1, _⟩ := hc (fun a o => (a, o) ∈ tlc ∨ o.cls ≠ .ref 64) (fun q hq => .inl hq) (.inr (h64 _ (.inr (.inl rfl)))) (.inr (h64 _ (.inr (.inl rfl))))
    (fun q' _ => ⟨0, 0, 0, 0, 0, 0, 0, 0, .inr (h64 _ (.inl rfl)), .inr (h64 _ (.inr (.inr (.inl rfl)))), .inr (h64 _ (.inr (.inr (.inr rfl))))⟩)
  intro hm
  rcases a1 with a1 | a1
  · obtain ⟨i, hi, e⟩ := List.getElem_of_mem hm
    obtain ⟨dx, ax⟩ := wd_obj hw (hw.len ▸ hi)
    rw [List.getD_eq_getElem?_getD, List.getElem?_eq_getElem hi, Option.getD_some, e] at ax
    have := S _ a1
    rw [ax] at this
    cases this
  · exact a1 rfl
end
end Mine
local macro_rules | `(tactic| walk_at "call ref") => `(tactic| (k_here; (with_reducible show wpAny _ _ (call (Value.ref 631) [_, _, _] []) _ _ _); k_dflt (refine' Mine.Does.use0 (Mine.law_at_does ?h0 ?hi ?hn) ?k1 ?k2 ?k3 ?k4 ?k5 ?k6 ?k7 ?k8 ?k9 ?_; (case k1 => k_asm); (case k2 => k_asm); (case k3 => k_asm); (case k4 => k_asm); (case k5 => k_asm); (case k6 => first | exact rfl | assumption); (case k7 => (intro g9 G9; exact Mine.isl_up (by assumption) (by assumption) G9)); (case h0 => omega); (case hi => assumption); (case hn => assumption); (case k8 => k_room); (case k9 => k_units)); (intro _ tl' h' tk' F' N' G' S' hR'); (obtain ⟨e1', t', e2'⟩ := hR'; subst e1'; subst e2'); (try simp only [List.nil_append] at N'); (try k_sweep)))
namespace Mine
set_option maxRecDepth 100000
set_option maxHeartbeats 8000000
variable {w : World} {p : Program} {loose : List Str} {mean : ExcName → Option Value} {mg mb : Str → Option Value}
theorem law_world_does {sc : Addr} {vs : List Value} {ns : List Int} {n : Nat} {t1 t2 : Tok} (hi : IntsAre vs ns) (hlen : ns.length ≤ 63) (hn : n ≤ 6) :
    Makes w p loose mean mg mb 14 638 [.ref sc, .int 1 t1, .int (n : Int) t2] (fun g => g.IsList sc vs.toArray)
      (fun r tl => ∃ chs cs cl n' wl, Good chs ∧ chs.length = n + 1 ∧ r = .ref cl ∧ tl = (cl, listOf (cs.map Value.ref).toArray n') :: wl ∧ (∀ q ∈ wl, q.1 ≠ cl) ∧ ∀ At : Addr → Obj → Prop, (∀ q ∈ wl, At q.1 q.2) → Wd At chs cs) := by
  intro dp un gd cn cs' a ccd cl outer A₀ base h₀ L m s Q E B F X T hk hW hd hu hret
  have N : News h₀ L s.heap [] := fun _ h => nomatch h
  refine wpAny_call ?_
  (first | (k_dflt (refine' Mine.code_defGS (binds := [(Str.ofString "script", .ref sc), (Str.ofString "start", .int 1 t1), (Str.ofString "many", .int (n : Int) t2)]) ?k1 ?k2 ?k3 ?k4 ?k5 ?kA ?kF ?kK ?k6 ?k7 ?k8 ?k9 ?kB ?_ ?c2 ?c3 ?c4 ?c5; (case kA => exact rfl); (case kF => exact rfl); (case kK => first | exact rfl | assumption); (case k1 => k_asm); (case k2 => k_asm); (case k3 => k_asm); (case k4 => k_asm); (case k5 => k_asm); (case k6 => k_is); (case k7 => k_is); (case k8 => k_room); (case k9 => first | exact BindsTo.of_eq rfl | exact binds_K (by k_in) rfl (by k_is) rfl rfl rfl); (case c5 => decide); (case kB => exact locs rfl); (case c2 => exact rfl); (case c3 => exact rfl); (case c4 => exact rfl); k_whole)) | fail "enter")
  intro g L₁ h₁ FG F₁ N₁ B₁ X₁ T₁ G hL
  have hlt := Nat.le_trans hL (Nat.le_of_lt F₁.ns.lt)
  dsimp only [List.reverse, List.reverseAux] at F₁
  (try dsimp only)
  (try k_unmd)
  k_fold
  have hkp : ∀ b o, s.heap.get? b = some o → g.get? b = some o := fun b o e => G b o e (fun h => nomatch h)
  have hl := hW _ hkp
  repeat ((fail_if_success (with_reducible show wpAny _ _ (call (Value.ref 64) _ _) _ _ _)); (first | (k_unfold; (try dsimp only)) | walk1 | (dsimp only; walk1)))
  k_dflt (refine' Mine.Makes.use (Mine.new_cls_does (chs := []) (cs := []) (up := none) (x := (0 : Nat)) ?hup ?hlen) ?k1 ?k2 ?k3 ?k4 ?k5 ?k6 ?k7 ?k8 ?k9 ?_)
  case hup => exact fun q e => nomatch e
  case hlen => exact Nat.zero_le _
  case k1 => k_asm
  case k2 => k_asm
  case k3 => k_asm
  case k4 => k_asm
  case k5 => k_asm
  case k6 => exact rfl
  case k7 =>
    intro g9 G9
    exact ⟨Mine.news_up (by assumption) (by k_mem) G9, Mine.news_up (by assumption) (by k_mem) G9, Wd.none_at, fun q e => nomatch e⟩
  case k8 => k_room
  case k9 => k_units
  intro _ tl h' tk' F' N' G' S' hR'
  obtain ⟨c, rfl, hc⟩ := hR'
  repeat ((fail_if_success (with_reducible show wpAny _ _ (newList [Value.ref _]) _ _ _)); (first | (k_unfold; (try dsimp only)) | walk1 | (dsimp only; walk1)))
  rename Fr _ _ _ _ => F₂
  rename News _ _ _ _ => N₂
  have hwd0 := world0 (P := fun At => ∀ (q : Nat), none = some q → InstTo At 0 ([].getD q 0)) N₂ (fun At q e => nomatch e) hc
  k_dflt (refine newList_lt F₂ N₂ ?_ (Nat.le_of_ble_eq_true rfl))
  intro cl h' F' N' l1 lx
  clear F₂ N₂
  generalize (tl ++ _) = wl0 at N' l1 hwd0
  repeat ((fail_if_success (with_reducible show wpAny _ _ (exec (Stmt.For _ _ _ _ _) _) _ _ _)); (first | (k_unfold; (try dsimp only)) | walk1 | (dsimp only; walk1)))
  k_dflt (refine For_invV g (by rfl) (by rfl) ?_)
  repeat ((fail_if_success (with_reducible show wpAny _ _ (call (Value.type _) _) _ _ _)); (first | (k_unfold; (try dsimp only)) | walk1 | (dsimp only; walk1)))
  rename Fr _ _ _ _ => F₂
  rename News _ _ _ _ => N₂
  k_dflt (refine range_lt F₂ N₂ ?_)
  intro r h' tk u1 u2 F' N' l2
  clear F₂ N₂
  dsimp only
  with_unfolding_all refine loopRz (z := Str.ofString "above") (n := n) (fun i nx => ∃ chs cs n' wl, Good chs ∧ chs.length = i + 1 ∧ nx = (cl, listOf (cs.map Value.ref).toArray n') :: wl ∧ (∀ q ∈ wl, q.1 ≠ cl) ∧ ∀ At : Addr → Obj → Prop, (∀ q ∈ wl, At q.1 q.2) → Wd At chs cs) rfl (N' _ (.head _)).1 (range_ok n (by omega)).1 (range_ok n (by omega)).2 F' (fun q hq => N' q (.tail _ hq)) ?_ ?_ ?_
  · exact ⟨[[0]], [c], 0, wl0, Good.one, rfl, rfl, fun q hq => Nat.ne_of_lt (l1 q hq), hwd0⟩
  · rintro i tv u nx h tk own hin ho ⟨chs, cs, n', wl, hgd, hcl, rfl, hoff, hwd⟩ F₁ N₁ hos
    clear F' N'
    have hw₁ : Wd (hAt h) chs cs := hwd _ (fun q hq => (N₁ q (List.mem_append_left _ (.tail _ hq))).1)
    have hlen' := hw₁.len
    repeat ((fail_if_success (with_reducible show wpAny _ _ (call (Value.builtin _) _) _ _ _)); (first | (k_unfold; (try dsimp only)) | walk1 | (dsimp only; walk1)))
    rename Fr _ _ _ _ => F₂
    rename News _ _ _ _ => N₂
    k_dflt (refine len_at (i + 1) (News.isList N₂ (.head _)) (by simp [hlen', hcl]) (by omega) ?_)
    repeat ((fail_if_success (with_reducible show wpAny _ _ (subscriptTail _ _ _ _) _ _ _)); (first | (k_unfold; (try dsimp only)) | walk1 | (dsimp only; walk1)))
    k_dflt (refine' item_fmod (vs := cs.map Value.ref) (News.isList (by k_asm) (.head _)) ?h0 ?h1 ?hz ?_ (by with_unfolding_all rfl))
    case h0 => omega
    case h1 => rw [List.length_map]; omega
    case hz => omega
    intro q hq _
    rw [getD_map cs Value.ref q 0 .none (by omega)]
    repeat ((fail_if_success (with_reducible show wpAny _ _ (call (Value.ref 312) _ _) _ _ _)); (first | (k_unfold; (try dsimp only)) | walk1 | (dsimp only; walk1)))
    rename News g _ _ _ => Nx
    rename (∀ p ∈ (cl, _) :: wl ++ own, p.1 < _) => f5
    rename (@LT.lt Nat _ _ _ ∧ AllLt _ _) => f4
    k_dflt (refine' Mine.Makes.use Mine.new_inst_does ?k1 ?k2 ?k3 ?k4 ?k5 ?k6 ?k7 ?k8 ?k9 ?_)
    case k1 => k_asm
    case k2 => k_asm
    case k3 => k_asm
    case k4 => k_asm
    case k5 => k_asm
    case k6 => exact rfl
    case k7 =>
      intro g9 G9
      exact Mine.news_up (by assumption) (by k_mem) G9
    case k8 => k_room
    case k9 => k_units
    intro _ tlx h' tk' F' N' G' S' hR'
    obtain ⟨xi, rfl, hxi⟩ := hR'
    have f3 := fun p hp => off_of_fresh Nx S' (p := p) hp
    clear Nx
    repeat ((fail_if_success (with_reducible show wpAny _ _ (call (Value.ref 64) _ _) _ _ _)); (first | (k_unfold; (try dsimp only)) | walk1 | (dsimp only; walk1)))
    rename News g _ _ _ => Nx
    rename (∀ p ∈ tlx ++ _, p.1 < _) => f2
    k_dflt (refine' Mine.Makes.use (Mine.new_cls_does (chs := chs) (cs := cs) (up := some q) (x := xi) ?hup ?hlen) ?k1 ?k2 ?k3 ?k4 ?k5 ?k6 ?k7 ?k8 ?k9 ?_)
    case hup =>
      intro q' e
      obtain rfl := Option.some.inj e
      exact ⟨by omega, hgd⟩
    case hlen => omega
    case k1 => k_asm
    case k2 => k_asm
    case k3 => k_asm
    case k4 => k_asm
    case k5 => k_asm
    case k6 => exact rfl
    case k7 =>
      intro g9 G9
      refine ⟨Mine.news_up Nx (.tail _ (List.mem_append_right _ (.tail _ (.head _)))) G9, Mine.news_up Nx (.head _) G9, hwd _ fun q hq => Mine.news_up Nx (by simp [hq]) G9, fun q' e => ?_⟩
      obtain rfl := Option.some.inj e
      exact hxi _ fun q hq => Mine.news_up Nx (by simp [hq]) G9
    case k8 => k_room
    case k9 => k_units
    intro _ tlc h' tk' F' N' G' S' hR'
    obtain ⟨c', rfl, hc'⟩ := hR'
    have f1 := fun p hp => off_of_fresh Nx S' (p := p) hp
    have hcn := fresh_cls hc' S' (hwd _ fun q hq => (Nx q (by simp [hq])).1)
    clear Nx
    repeat ((fail_if_success (with_reducible show wpAny _ _ (call (Value.builtin _) _) _ _ _)); (first | (k_unfold; (try dsimp only)) | walk1 | (dsimp only; walk1)))
    rename Fr _ _ _ _ => F₃
    rename News _ _ _ _ => N₃
    obtain ⟨g1, g2, g3⟩ := turn_off f1 f2 f3 (List.forall_mem_cons.mpr ⟨f4.1, of_allLt f4.2⟩) f5 hoff ho
    k_dflt (refine append_K F₃ (turn_mem N₃) (Upd.head (List.forall_mem_append.mpr ⟨g1, g2⟩)) ?_ ?_)
    · intro h' F' N'
      clear F₃ N₃
      repeat ((first | (with_reducible show wpAny _ _ _ _ _ _) | (with_reducible show PySem.W.Frag.In _ _ ∧ _)); (first | (k_unfold; (try dsimp only)) | walk1 | (dsimp only; walk1)))
      rename Fr _ _ _ _ => F₃
      rename News _ _ _ _ => N₃
      refine tbEnd_of F₃ N₃ _ ?_ ?_ ?_ ⟨⟨chs ++ [chs.length :: chs.getD q []], cs ++ [c'], n' + 1, _, hgd.grow (by omega), by rw [List.length_append, hcl]; rfl, by rw [List.map_append, List.map_singleton, ← List.push_toArray], g1, ?_⟩, ?_⟩
      · intro p hp
        rcases List.mem_cons.mp hp with rfl | hp
        · exact .head _
        · exact .tail _ (List.mem_append_left _ hp)
      · exact fun p hp => .tail _ (List.mem_append_right _ hp)
      · exact tboff_same (by rfl) g3
      · intro At hAt
        refine (hwd At fun q hq => hAt q (by simp [hq])).grow hgd (by omega) ?_ hcn
        rw [hcl, ← nm_at]
        exact hc' At (fun q hq => hAt q (by simp [hq])) (hAt (_, _) (List.mem_append_right _ (.tail _ (List.mem_append_right _ (.tail _ (.head _)))))) (hAt (_, _) (List.mem_append_right _ (.head _))) (fun q' e => by
          obtain rfl := Option.some.inj e
          exact hxi _ fun q hq => hAt q (by simp [hq]))
      · intro y h1 h2
        show (if y = _ then _ else if y = _ then _ else if y = _ then _ else _) = _
        rw [if_neg h2, if_neg h1, if_neg h2]
    · rw [List.size_toArray, List.length_map]
      unfold sizeLine
      omega
  · rintro u₁ u₂ nx h tk ⟨chs, cs, n', wl, hgd, hcl, rfl, hoff, hwd⟩ F₁ N₁
    clear F' N'
    k_steps
    rename News h₀ _ _ _ => N₇
    rename News g _ _ _ => N₈
    exact hret _ _ _ _ (by assumption) N₇ (fun b o e => Fr.keep (h₀ := g) (by assumption) b o (hkp b o e)) (fresh_of N₈ hkp) ⟨chs, cs, cl, n', wl, hgd, hcl, rfl, rfl, hoff, hwd⟩
end Mine

namespace Mine
theorem kc_nine {cm : Str → Option Value} {n₁ n₂ n₃ n₄ n₅ n₆ n₇ n₈ n₉ : Str} {c₁ c₂ c₃ c₄ c₅ c₆ c₇ c₈ c₉ : Addr} {cells : List (Addr × Obj)} (x : CellsAre cm [(n₁, c₁), (n₂, c₂), (n₃, c₃), (n₄, c₄), (n₅, c₅), (n₆, c₆), (n₇, c₇), (n₈, c₈), (n₉, c₉)] cells) :
    ∃ o₁ o₂ o₃ o₄ o₅ o₆ o₇ o₈ o₉, cells = [(c₁, o₁), (c₂, o₂), (c₃, o₃), (c₄, o₄), (c₅, o₅), (c₆, o₆), (c₇, o₇), (c₈, o₈), (c₉, o₉)] ∧ o₁.data = .cell (cm n₁) ∧ o₂.data = .cell (cm n₂) ∧ o₃.data = .cell (cm n₃) ∧ o₄.data = .cell (cm n₄) ∧ o₅.data = .cell (cm n₅) ∧ o₆.data = .cell (cm n₆) ∧ o₇.data = .cell (cm n₇) ∧ o₈.data = .cell (cm n₈) ∧ o₉.data = .cell (cm n₉) := by
  cases x with | cons h r => obtain ⟨o₂, o₃, o₄, o₅, o₆, o₇, o₈, o₉, rfl, h₂, h₃, h₄, h₅, h₆, h₇, h₈, h₉⟩ := kc_eight r; exact ⟨_, o₂, o₃, o₄, o₅, o₆, o₇, o₈, o₉, rfl, h, h₂, h₃, h₄, h₅, h₆, h₇, h₈, h₉⟩
end Mine
local macro_rules | `(tactic| cells_open $x:ident) => `(tactic| (obtain ⟨_, _, _, _, _, _, _, _, _, he, _, _, _, _, _, _, _, _, _⟩ := Mine.kc_nine $x; subst he))
local macro_rules | `(tactic| walk_at "callWith ref") => `(tactic| (k_here; k_dflt (refine' callWith_K ?kf ?ki ?_; (case kf => k_asm); (case ki => k_is); k_whole)))
namespace Mine
set_option maxRecDepth 100000
/-- the law's own def -/
def LawFn (P : Params) (qual : Str) (body : List Stmt) (scope : Scope) : Prop :=
  ∃ name params dV kV doc pm an cdv ct oc od osl, (hd.heap_39 P).lookup 655 = some ⟨oc, od, .func (fnOf name qual params body scope dV kV doc pm an cdv ct), osl⟩
structure LawCtx (w : World) (p : Program) (loose : List Str) (mean : ExcName → Option Value) (mg mb : Str → Option Value) (qual : Str) (body : List Stmt) (scope : Scope) (g base : Heap) (L sc : Addr) (vs : List Value) (ns : List Int) : Prop where
  hf : LawFn w.params qual body scope
  K : Below callerA base [] g
  X : (hd.heap_39 w.params).In g
  T : Top p loose mean mg mb g
  hl : g.IsList sc vs.toArray
  hI : IntsAre vs ns
  hlen : ns.length ≤ 63
  hC : CodeHd g 654 652
/-- the suite of the if that leads -/
def ifBody : List Stmt → List Stmt
  | .If _ b _ _ :: _ => b
  | _ => []
abbrev lawEnv (qual : Str) (scope : Scope) (L fa : Addr) : Env := envOfC qual scope L fa (.ref 654)
abbrev cdat (o : Obj) (v : Option Value) : Prop := o.data = .cell v
theorem news_swap {h H : Heap} {L : Addr} {a b : List (Addr × Obj)} (N : News h L H (a ++ b)) : News h L H (b ++ a) := fun p hp => N p (List.mem_append.mpr ((List.mem_append.mp hp).symm))
theorem off_adr {tl l : List (Addr × Obj)} {as : List Addr} (h : ∀ z ∈ l, ∀ q ∈ tl, q.1 ≠ z.1) (e : l.map (·.1) = as) : ∀ a ∈ as, ∀ q ∈ tl, q.1 ≠ a := fun a ha q hq => by
  subst e
  obtain ⟨z, hz, rfl⟩ := List.mem_map.mp ha
  exact h z hz q hq
end Mine
local macro_rules | `(tactic| k_all) => `(tactic| with_reducible assumption)
namespace Mine
set_option maxRecDepth 100000
set_option maxHeartbeats 8000000
variable {w : World} {p : Program} {loose : List Str} {mean : ExcName → Option Value} {mg mb : Str → Option Value} {qual : Str} {body : List Stmt} {scope : Scope} {g base : Heap} {L sc fa : Addr} {vs : List Value} {ns : List Int}
theorem st0 (c : LawCtx w p loose mean mg mb qual body scope g base L sc vs ns) {s : Shared} {Q : Flow → Shared → Prop} {E : Value → Shared → Prop} {o1 o2 o3 o4 o5 o6 o7 o8 o9 : Obj} {u : Str → Option Value} {v1 : Option Value}
    (h652 : @LT.lt Nat _ 652 L) (F : Fr g L s.heap (fun y => if y = Str.ofString "script" then some (.ref sc) else u y)) (N : News g L s.heap ((L + 1 + 1 + 1 + 1 + 1 + 1 + 1 + 1 + 1, o9) :: (L + 1 + 1 + 1 + 1 + 1 + 1 + 1 + 1, o8) :: (L + 1 + 1 + 1 + 1 + 1 + 1 + 1, o7) :: (L + 1 + 1 + 1 + 1 + 1 + 1, o6) :: (L + 1 + 1 + 1 + 1 + 1, o5) :: (L + 1 + 1 + 1 + 1, o4) :: (L + 1 + 1 + 1, o3) :: (L + 1 + 1, o2) :: (L + 1, o1) :: (652, tabObj #[]) :: [])) (d1 : cdat o1 v1)
    (next : ∀ h' tk o1 chs cs cl n' wl, Good chs → chs.length ≤ 7 → (∀ At : Addr → Obj → Prop, (∀ q ∈ wl, At q.1 q.2) → Wd At chs cs) → cdat o1 (some (.ref cl)) →
      (∀ a ∈ ([L + 1 + 1 + 1 + 1 + 1 + 1 + 1 + 1 + 1, L + 1 + 1 + 1 + 1 + 1 + 1 + 1 + 1, L + 1 + 1 + 1 + 1 + 1 + 1 + 1, L + 1 + 1 + 1 + 1 + 1 + 1, L + 1 + 1 + 1 + 1 + 1, L + 1 + 1 + 1 + 1, L + 1 + 1 + 1, L + 1 + 1, L + 1, 652] : List Addr), ∀ q ∈ (cl, listOf (cs.map Value.ref).toArray n') :: wl, q.1 ≠ a) → (∀ q ∈ wl, q.1 ≠ cl) → Fr g L h' (fun y => if y = Str.ofString "script" then some (.ref sc) else u y) → News g L h' ((L + 1 + 1 + 1 + 1 + 1 + 1 + 1 + 1 + 1, o9) :: (L + 1 + 1 + 1 + 1 + 1 + 1 + 1 + 1, o8) :: (L + 1 + 1 + 1 + 1 + 1 + 1 + 1, o7) :: (L + 1 + 1 + 1 + 1 + 1 + 1, o6) :: (L + 1 + 1 + 1 + 1 + 1, o5) :: (L + 1 + 1 + 1 + 1, o4) :: (L + 1 + 1 + 1, o3) :: (L + 1 + 1, o2) :: (L + 1, o1) :: (652, tabObj #[]) :: (cl, listOf (cs.map Value.ref).toArray n') :: wl) →
      wpAny (model PG w) (callerA.deeper (lawEnv qual scope L fa)) (execs (body.drop 1) (lawEnv qual scope L fa)) Q E { s with heap := h', toks := tk }) :
    wpAny (model PG w) (callerA.deeper (lawEnv qual scope L fa)) (execs (body.drop 0) (lawEnv qual scope L fa)) Q E s := by
  obtain ⟨hf, K, X, TP, hl, hI, hlen, hC⟩ := c
  obtain ⟨name, params, dV, kV, doc, pm, an, cdv, ct, oc, od, osl, hf⟩ := hf
  have hf2 : (hd.heap_39 w.params).lookup 655 = some ⟨_, _, .func (fnOf _ _ _ _ _ _ _ _ _ _ _ _), _⟩ := rfl
  rw [hf2] at hf
  cases hf
  clear hf2
  dsimp only [List.drop, ifBody]
  repeat ((fail_if_success (with_reducible show wpAny _ _ (call (Value.ref 638) _ _) _ _ _)); (first | (k_unfold; (try dsimp only)) | walk1 | (dsimp only; walk1)))
  obtain ⟨n, hn, en⟩ : ∃ n : Nat, n ≤ 6 ∧ 1 + (atOr ns (Int.toNat 0) 4).fmod 6 = (n : Int) := by
    obtain ⟨q, hq, e⟩ := fmod_idx (a := atOr ns (Int.toNat 0) 4) (n := 6) (by omega)
    exact ⟨1 + q, by omega, by rw [show ((6 : Nat) : Int) = 6 from rfl] at e; omega⟩
  rw [en]
  rename News g _ _ _ => Nx
  k_dflt (refine' Mine.Makes.use (Mine.law_world_does ?hi ?hl ?hn) ?k1 ?k2 ?k3 ?k4 ?k5 ?k6 ?k7 ?k8 ?k9 ?_)
  case hi => assumption
  case hl => assumption
  case hn => assumption
  case k1 => k_asm
  case k2 => k_asm
  case k3 => k_asm
  case k4 => k_asm
  case k5 => k_asm
  case k6 => exact rfl
  case k7 =>
    intro g9 G9
    exact Mine.isl_up (by assumption) (by assumption) G9
  case k8 => k_room
  case k9 => k_units
  intro _ tl h' tk' F' N' G' S' hR'
  obtain ⟨chs, cs, cl, n', wl, hgd, hcl, rfl, rfl, hoff, hwd⟩ := hR'
  have f1 := off_adr (as := [L + 1 + 1 + 1 + 1 + 1 + 1 + 1 + 1 + 1, L + 1 + 1 + 1 + 1 + 1 + 1 + 1 + 1, L + 1 + 1 + 1 + 1 + 1 + 1 + 1, L + 1 + 1 + 1 + 1 + 1 + 1, L + 1 + 1 + 1 + 1 + 1, L + 1 + 1 + 1 + 1, L + 1 + 1 + 1, L + 1 + 1, L + 1, 652]) (fun z hz => off_of_fresh Nx S' (p := z) hz) rfl
  have N₁ := news_swap N'
  clear N' Nx
  simp only [List.cons_append, List.nil_append] at N₁
  have k1 : @Ne Nat cl (L + 1) := f1 (L + 1) (by simp) _ (.head _)
  have w1 : ∀ q ∈ wl, q.1 ≠ L + 1 := fun q hq => f1 (L + 1) (by simp) q (.tail _ hq)
  iterate 2 (first | (k_unfold; (try dsimp only)) | walk1 | (dsimp only; walk1))
  exact next _ _ _ chs cs cl n' wl hgd (by omega) hwd (by assumption) f1 hoff (by assumption) (by assumption)
end Mine

section
open PySem.Spec
namespace Mine
set_option maxRecDepth 100000
set_option maxHeartbeats 4000000
section
variable {prog : Program} {w : World} {A : Around} {E : Value → Shared → Prop} {s : Shared} {h₀ : Heap} {L : Addr} {m : Str → Option Value} {env : Env} {news : List (Addr × Obj)}
/-- a turn that makes objects -/
def Grow1 (h₀ : Heap) (L : Addr) (m : Str → Option Value) (s₁ : Shared) (all : List (Addr × Obj)) (R : Value → List (Addr × Obj) → Prop) (v : Value) (s₂ : Shared) : Prop :=
  ∃ h' tk tl, s₂ = { s₁ with heap := h', toks := tk } ∧ Fr h₀ L h' m ∧ News h₀ L h' (tl ++ all) ∧ (∀ z ∈ all, ∀ q ∈ tl, q.1 ≠ z.1) ∧ R v tl
theorem srcAt_more {ax : Addr} {its : Array Value} (h : LCg.SrcAt h₀ ax its news) (il : List (Addr × Obj)) : LCg.SrcAt h₀ ax its (il ++ news) := h.elim .inl fun ⟨o, hm, r⟩ => .inr ⟨o, List.mem_append_right _ hm, r⟩
/-- a comprehension whose turns make objects -/
theorem comp_G {elt iter : Expr} {x : Str} {px : Pos} {scope : Scope} {cl : List (Str × Addr)} {pos : Pos} {Q : Value → Shared → Prop} (J : Nat → List Value → List (Addr × Obj) → Prop) (F₀ : Fr h₀ L s.heap m) (_N₀ : News h₀ L s.heap news)
    (hclos : closureFor scope env = pure cl) (hcell : ∀ y ∈ scope.names, y.2 ≠ .cell) (hkind : scope.kind = .function)
    (hnames : ∀ y ∈ scope.names, y.2 = .local → scope.names.lookup y.1 = some .local) (hx : scope.names.lookup x = some .local) (h0 : J 0 [] [])
    (hmain : wpAny (model prog w) A (eval iter env) (fun xv s₁ => A.handled = none ∧ Fr h₀ L s₁.heap m ∧ News h₀ L s₁.heap news ∧ ∃ n P, SrcOK h₀ news xv s₁.heap n P ∧ n ≤ sizeLine ∧
      (∀ i v I oI C oC D m₂ ys il h tk (E' : Value → Shared → Prop), i < n → P i v → J i ys il → LCg.NsObj oC m₂ → m₂ x = some v → Fr h₀ L h m → News h₀ L h ((I, oI) :: (C, oC) :: (D, LCg.lst ys) :: (il ++ news)) →
        wpAny (model prog w) A (eval elt (compEnvC scope cl C env)) (Grow1 h₀ L m { s₁ with heap := h, toks := tk } ((I, oI) :: (C, oC) :: (D, LCg.lst ys) :: (il ++ news)) (fun y tl => J (i + 1) (ys ++ [y]) (tl ++ il))) E' { s₁ with heap := h, toks := tk }) ∧
      (∀ D ys il h tk, J n ys il → Fr h₀ L h m → News h₀ L h ((D, LCg.lst ys) :: (il ++ news)) → (∀ p ∈ il ++ news, p.1 ≠ D) → (∀ q ∈ il, ∀ z ∈ news, q.1 ≠ z.1) → Q (.ref D) { s₁ with heap := h, toks := tk })) E s)
    (hs : ∀ x, foldedSetIterable iter env x = pure x := by intro _; rfl) :
    wpAny (model prog w) A (eval (.ListComp elt [⟨.Name x px, iter, [], 0⟩] scope pos) env) Q E s := by
  refine LCg.ListComp_U F₀ hclos hcell hkind hnames hx (wpAny_mono hmain (fun xv s₁ q => ?_) fun _ _ e => e) hs
  obtain ⟨hh, F, N, n, P, src, hsz, turn, fin⟩ := q
  have off1 : ∀ {D : Addr} {l : List (Addr × Obj)}, LCg.Off1 D l → ∀ p ∈ l, p.1 ≠ D := by
    intro D l
    induction l with
    | nil => exact fun _ _ h => nomatch h
    | cons a l ih =>
      intro h p hp
      rcases List.mem_cons.mp hp with rfl | hp
      · exact h.1
      · exact ih h.2 p hp
  have key : ∀ (S : List (Addr × Obj) → Prop) (g : Heap), (∀ il, S (il ++ news)) → LCg.CompRest prog w A h₀ L m env elt x scope cl { s₁ with heap := g } S P (LCg.FinE h₀ L m { s₁ with heap := g } Q) n 0 [] news := by
    intro S g hS
    refine rest_inv (fun i ys nx => ∃ il, nx = il ++ news ∧ J i ys il ∧ ∀ q ∈ il, ∀ z ∈ news, q.1 ≠ z.1) ⟨[], rfl, h0, fun _ h => nomatch h⟩ ?_ ?_
    · rintro i v I oI C oC D m₂ ys nx h tk E' hi hv ⟨il, rfl, hj, hd⟩ hC hx F N off ne
      refine wpAny_mono (turn i v I oI C oC D m₂ _ il h tk E' hi hv hj hC hx F N) (fun y s₂ q => ?_) fun _ _ e => e
      obtain ⟨h', tk', tl, rfl, F', N', hf, hr⟩ := q
      refine LCg.CompEnd.intro F' N' ((tl ++ il) ++ news) ?_ ?_ (hS _) ⟨tl ++ il, rfl, hr, ?_⟩
      · intro p hp
        simp only [List.mem_cons, List.mem_append] at hp ⊢
        rcases hp with h | h | h | (h | h) | h <;> simp [h]
      · refine LCg.Off3.of fun p hp => ?_
        rw [List.append_assoc] at hp
        rcases List.mem_append.mp hp with hp | hp
        · exact ⟨hf (I, oI) (.head _) p hp, hf (C, oC) (.tail _ (.head _)) p hp, hf (D, LCg.lst ys) (.tail _ (.tail _ (.head _))) p hp⟩
        · exact off.mem p hp
      · intro q hq z hz
        rcases List.mem_append.mp hq with hq | hq
        · exact hf z (.tail _ (.tail _ (.tail _ (List.mem_append_right _ hz)))) q hq
        · exact hd q hq z hz
    · rintro ys nx ⟨il, rfl, hj, hd⟩ D h tk F N off
      exact fin D ys il h tk hj F N (off1 off) hd
  rcases src with ⟨ax, its, rfl, S, rfl, rfl⟩ | ⟨r, a, b, t, u, v, rfl, hr, h1, h2, rfl⟩
  · exact .inl ⟨ax, its, news, rfl, hh, F, N, S, hsz, fun _ ⟨g, e⟩ => e ▸ key _ g fun il => srcAt_more S il⟩
  · exact .inr ⟨r, a, b, t, u, v, n, news, rfl, hh, F, N, hr, h1, h2, hsz, fun _ ⟨g, e⟩ => e ▸ key _ g fun _ => trivial⟩
end
theorem news_mid {h H : Heap} {L : Addr} {D c : Addr × Obj} {il C10 wl : List (Addr × Obj)} (N : News h L H (D :: (il ++ (C10 ++ c :: wl)))) : News h L H (C10 ++ c :: D :: (il ++ wl)) := fun p hp => N p (by
  simp only [List.mem_cons, List.mem_append] at hp ⊢
  rcases hp with h | h | h | h | h <;> simp [h])
theorem insts_snoc {cs ts : List Addr} {i : Nat} {xi : Addr} {At : Addr → Obj → Prop} (hts : ts.length = i) (h : ∀ j, j < i → InstTo At (ts.getD j 0) (cs.getD j 0)) (hx : InstTo At xi (cs.getD i 0)) : ∀ j, j < i + 1 → InstTo At ((ts ++ [xi]).getD j 0) (cs.getD j 0) := by
  intro j hj
  by_cases hl : j < i
  · rw [List.getD_eq_getElem?_getD, List.getElem?_append_left (by omega), ← List.getD_eq_getElem?_getD]
    exact h j hl
  · obtain rfl : j = i := by omega
    rw [List.getD_eq_getElem?_getD, List.getElem?_append_right (by omega), hts]
    simpa using hx
theorem grow_inst {h₀ h' : Heap} {L al : Addr} {o : Obj} {m : Str → Option Value} {s₁ : Shared} {tk : Nat} {tlx all : List (Addr × Obj)} {R : Value → List (Addr × Obj) → Prop} {y : Value} (F' : Fr h₀ L h' m) (N' : News h₀ L h' (tlx ++ (al, o) :: all))
    (f3 : ∀ p ∈ (al, o) :: all, ∀ q ∈ tlx, q.1 ≠ p.1) (l1 : AllLt al all) (r : R y (tlx ++ [(al, o)])) : Grow1 h₀ L m s₁ all R y { s₁ with heap := h', toks := tk } := by
  refine ⟨h', tk, tlx ++ [(al, o)], rfl, F', ?_, ?_, r⟩
  · rw [List.append_assoc]
    exact N'
  · intro z hz q hq
    rcases List.mem_append.mp hq with hq | hq
    · exact f3 z (.tail _ hz) q hq
    · rw [List.mem_singleton.mp hq]
      exact Nat.ne_of_gt (of_allLt l1 z hz)
end Mine

end
namespace Mine
set_option maxRecDepth 100000
set_option maxHeartbeats 8000000
variable {w : World} {p : Program} {loose : List Str} {mean : ExcName → Option Value} {mg mb : Str → Option Value} {qual : Str} {body : List Stmt} {scope : Scope} {g base : Heap} {L sc fa : Addr} {vs : List Value} {ns : List Int}
theorem st1 (c : LawCtx w p loose mean mg mb qual body scope g base L sc vs ns) {s : Shared} {Q : Flow → Shared → Prop} {E : Value → Shared → Prop} {o1 o2 o3 o4 o5 o6 o7 o8 o9 : Obj} {u : Str → Option Value} {v3 : Option Value}
    {chs : List (List Nat)} {cs : List Addr} {cl : Addr} {n' : Nat} {wl : List (Addr × Obj)} (hlc : chs.length ≤ 7)
    (hwd : ∀ At : Addr → Obj → Prop, (∀ q ∈ wl, At q.1 q.2) → Wd At chs cs) (d1 : cdat o1 (some (.ref cl))) (d3 : cdat o3 v3) (h652 : @LT.lt Nat _ 652 L)
    (hof : ∀ a ∈ ([L + 1 + 1 + 1 + 1 + 1 + 1 + 1 + 1 + 1, L + 1 + 1 + 1 + 1 + 1 + 1 + 1 + 1, L + 1 + 1 + 1 + 1 + 1 + 1 + 1, L + 1 + 1 + 1 + 1 + 1 + 1, L + 1 + 1 + 1 + 1 + 1, L + 1 + 1 + 1 + 1, L + 1 + 1 + 1, L + 1 + 1, L + 1, 652] : List Addr), ∀ q ∈ (cl, listOf (cs.map Value.ref).toArray n') :: wl, q.1 ≠ a)
    (F : Fr g L s.heap (fun y => if y = Str.ofString "script" then some (.ref sc) else u y)) (N : News g L s.heap ((L + 1 + 1 + 1 + 1 + 1 + 1 + 1 + 1 + 1, o9) :: (L + 1 + 1 + 1 + 1 + 1 + 1 + 1 + 1, o8) :: (L + 1 + 1 + 1 + 1 + 1 + 1 + 1, o7) :: (L + 1 + 1 + 1 + 1 + 1 + 1, o6) :: (L + 1 + 1 + 1 + 1 + 1, o5) :: (L + 1 + 1 + 1 + 1, o4) :: (L + 1 + 1 + 1, o3) :: (L + 1 + 1, o2) :: (L + 1, o1) :: (652, tabObj #[]) :: (cl, listOf (cs.map Value.ref).toArray n') :: wl))
    (next : ∀ h' tk o3 ts tyl n2 wl', (∀ At : Addr → Obj → Prop, (∀ q ∈ wl', At q.1 q.2) → Wd At chs cs ∧ TsAt At chs cs ts) → ts.length = cs.length → cdat o3 (some (.ref tyl)) →
      (∀ a ∈ ([L + 1 + 1 + 1 + 1 + 1 + 1 + 1 + 1 + 1, L + 1 + 1 + 1 + 1 + 1 + 1 + 1 + 1, L + 1 + 1 + 1 + 1 + 1 + 1 + 1, L + 1 + 1 + 1 + 1 + 1 + 1, L + 1 + 1 + 1 + 1 + 1, L + 1 + 1 + 1 + 1, L + 1 + 1 + 1, L + 1 + 1, L + 1, 652] : List Addr), ∀ q ∈ (cl, listOf (cs.map Value.ref).toArray n') :: (tyl, listOf (ts.map Value.ref).toArray n2) :: wl', q.1 ≠ a) → Fr g L h' (fun y => if y = Str.ofString "script" then some (.ref sc) else u y) →
      News g L h' ((L + 1 + 1 + 1 + 1 + 1 + 1 + 1 + 1 + 1, o9) :: (L + 1 + 1 + 1 + 1 + 1 + 1 + 1 + 1, o8) :: (L + 1 + 1 + 1 + 1 + 1 + 1 + 1, o7) :: (L + 1 + 1 + 1 + 1 + 1 + 1, o6) :: (L + 1 + 1 + 1 + 1 + 1, o5) :: (L + 1 + 1 + 1 + 1, o4) :: (L + 1 + 1 + 1, o3) :: (L + 1 + 1, o2) :: (L + 1, o1) :: (652, tabObj #[]) :: (cl, listOf (cs.map Value.ref).toArray n') :: (tyl, listOf (ts.map Value.ref).toArray n2) :: wl') →
      wpAny (model PG w) (callerA.deeper (lawEnv qual scope L fa)) (execs (body.drop 2) (lawEnv qual scope L fa)) Q E { s with heap := h', toks := tk }) :
    wpAny (model PG w) (callerA.deeper (lawEnv qual scope L fa)) (execs (body.drop 1) (lawEnv qual scope L fa)) Q E s := by
  obtain ⟨hf, K, X, TP, hl, hI, hlen, hC⟩ := c
  obtain ⟨name, params, dV, kV, doc, pm, an, cdv, ct, oc, od, osl, hf⟩ := hf
  have hf2 : (hd.heap_39 w.params).lookup 655 = some ⟨_, _, .func (fnOf _ _ _ _ _ _ _ _ _ _ _ _), _⟩ := rfl
  rw [hf2] at hf
  cases hf
  clear hf2
  dsimp only [List.drop, ifBody]
  have hcl : cs.length = chs.length := (hwd (hAt s.heap) fun q hq => (N q (by simp [hq])).1).len
  repeat ((fail_if_success (with_reducible show wpAny _ _ (eval (PySem.Expr.ListComp _ _ _ _) _) _ _ _)); (first | (k_unfold; (try dsimp only)) | walk1 | (dsimp only; walk1)))
  rename Fr _ _ _ _ => F₀
  rename News _ _ _ _ => N₀
  k_dflt (refine comp_G (fun i ys il => ∃ ts : List Addr, ts.length = i ∧ ys = ts.map Value.ref ∧ ∀ At : Addr → Obj → Prop, (∀ q ∈ il, At q.1 q.2) → ∀ j, j < i → InstTo At (ts.getD j 0) (cs.getD j 0)) F₀ N₀ (by with_unfolding_all rfl) (by decide) rfl (by decide) (by rfl) ⟨[], rfl, rfl, fun _ _ _ h => absurd h (Nat.not_lt_zero _)⟩ ?_)
  repeat ((first | (with_reducible show wpAny _ _ _ _ _ _) | (with_reducible show PySem.W.Frag.In _ _ ∧ _)); (first | (k_unfold; (try dsimp only)) | walk1 | (dsimp only; walk1)))
  refine ⟨rfl, F₀, N₀, _, _, .led (by k_mem), by simp only [List.size_toArray, List.length_map]; unfold sizeLine; omega, ?_, ?_⟩
  · rintro i v I oI C oC D m₂ ys il h tk E' hi hv ⟨ts, hts, rfl, hil⟩ hC hm F₁ N₁
    obtain ⟨hi', rfl⟩ : i < cs.length ∧ v = .ref (cs.getD i 0) := by
      simp only [List.size_toArray, List.length_map] at hi
      refine ⟨hi, ?_⟩
      simp only [List.getElem?_toArray, List.getElem?_map, List.getElem?_eq_getElem hi, Option.map_some, Option.some.injEq] at hv
      rw [← hv, List.getD_eq_getElem?_getD, List.getElem?_eq_getElem hi]
      rfl
    clear F₀ N₀
    repeat ((fail_if_success (with_reducible show wpAny _ _ (call (Value.ref 312) _ _) _ _ _)); (first | (k_unfold; (try dsimp only)) | walk1 | (dsimp only; walk1)))
    rename News _ _ _ _ => Nx
    rename (@LT.lt Nat _ I _ ∧ _) => l1
    k_dflt (refine' Mine.Makes.use Mine.new_inst_does ?k1 ?k2 ?k3 ?k4 ?k5 ?k6 ?k7 ?k8 ?k9 ?_)
    case k1 => k_asm
    case k2 => k_asm
    case k3 => k_asm
    case k4 => k_asm
    case k5 => k_asm
    case k6 => exact rfl
    case k7 =>
      intro g9 G9
      exact Mine.news_up Nx (.head _) G9
    case k8 => k_room
    case k9 => k_units
    intro _ tlx h' tk' F' N' G' S' hR'
    obtain ⟨xi, rfl, hxi⟩ := hR'
    have f3 := fun p hp => off_of_fresh Nx S' (p := p) hp
    clear Nx
    repeat ((first | (with_reducible show wpAny _ _ _ _ _ _) | (with_reducible show PySem.W.Frag.In _ _ ∧ _)); (first | (k_unfold; (try dsimp only)) | walk1 | (dsimp only; walk1)))
    refine grow_inst (by assumption) (by assumption) f3 l1 ?_
    exact ⟨ts ++ [xi], by rw [List.length_append, hts]; rfl, by rw [List.map_append]; rfl, fun At hAt => insts_snoc hts (hil At fun q hq => hAt q (List.mem_append_right _ hq)) (hxi At fun q hq => hAt q (List.mem_append_left _ (List.mem_append_left _ hq)))⟩
  · rintro D ys il h tk ⟨ts, hts, rfl, hil⟩ F₁ N₁ hD hd
    clear F₀ N₀
    have N₂ : News g L h ((L + 1 + 1 + 1 + 1 + 1 + 1 + 1 + 1 + 1, o9) :: (L + 1 + 1 + 1 + 1 + 1 + 1 + 1 + 1, o8) :: (L + 1 + 1 + 1 + 1 + 1 + 1 + 1, o7) :: (L + 1 + 1 + 1 + 1 + 1 + 1, o6) :: (L + 1 + 1 + 1 + 1 + 1, o5) :: (L + 1 + 1 + 1 + 1, o4) :: (L + 1 + 1 + 1, o3) :: (L + 1 + 1, o2) :: (L + 1, o1) :: (652, tabObj #[]) :: (cl, listOf (cs.map Value.ref).toArray n') :: (D, listOf (ts.map Value.ref).toArray (ts.map Value.ref).length) :: (il ++ wl)) := news_mid (C10 := (L + 1 + 1 + 1 + 1 + 1 + 1 + 1 + 1 + 1, o9) :: (L + 1 + 1 + 1 + 1 + 1 + 1 + 1 + 1, o8) :: (L + 1 + 1 + 1 + 1 + 1 + 1 + 1, o7) :: (L + 1 + 1 + 1 + 1 + 1 + 1, o6) :: (L + 1 + 1 + 1 + 1 + 1, o5) :: (L + 1 + 1 + 1 + 1, o4) :: (L + 1 + 1 + 1, o3) :: (L + 1 + 1, o2) :: (L + 1, o1) :: (652, tabObj #[]) :: []) N₁
    clear N₁
    have f1 := off_adr (l := (L + 1 + 1 + 1 + 1 + 1 + 1 + 1 + 1 + 1, o9) :: (L + 1 + 1 + 1 + 1 + 1 + 1 + 1 + 1, o8) :: (L + 1 + 1 + 1 + 1 + 1 + 1 + 1, o7) :: (L + 1 + 1 + 1 + 1 + 1 + 1, o6) :: (L + 1 + 1 + 1 + 1 + 1, o5) :: (L + 1 + 1 + 1 + 1, o4) :: (L + 1 + 1 + 1, o3) :: (L + 1 + 1, o2) :: (L + 1, o1) :: (652, tabObj #[]) :: []) (as := [L + 1 + 1 + 1 + 1 + 1 + 1 + 1 + 1 + 1, L + 1 + 1 + 1 + 1 + 1 + 1 + 1 + 1, L + 1 + 1 + 1 + 1 + 1 + 1 + 1, L + 1 + 1 + 1 + 1 + 1 + 1, L + 1 + 1 + 1 + 1 + 1, L + 1 + 1 + 1 + 1, L + 1 + 1 + 1, L + 1 + 1, L + 1, 652]) (tl := (D, listOf (ts.map Value.ref).toArray (ts.map Value.ref).length) :: il) (fun z hz q hq => by
      have hz' := List.mem_append_left ((cl, listOf (cs.map Value.ref).toArray n') :: wl) hz
      rcases List.mem_cons.mp hq with rfl | hq
      · exact fun e => hD z (List.mem_append_right _ hz') e.symm
      · exact hd q hq z hz') rfl
    have k1 : @Ne Nat cl (L + 1 + 1 + 1) := hof (L + 1 + 1 + 1) (by simp) _ (.head _)
    have k2 : @Ne Nat D (L + 1 + 1 + 1) := f1 (L + 1 + 1 + 1) (by simp) _ (.head _)
    have w1 : ∀ q ∈ il ++ wl, q.1 ≠ L + 1 + 1 + 1 := fun q hq => (List.mem_append.mp hq).elim (fun h => f1 (L + 1 + 1 + 1) (by simp) q (.tail _ h)) fun h => hof (L + 1 + 1 + 1) (by simp) q (.tail _ h)
    repeat ((fail_if_success (with_reducible show wpAny _ _ (execs _ _) _ _ _)); (first | (k_unfold; (try dsimp only)) | walk1 | (dsimp only; walk1)))
    refine next _ _ _ ts D _ (il ++ wl) ?_ ?_ (by assumption) ?_ (by assumption) (by assumption)
    · intro At hAt
      have hw := hwd At fun q hq => hAt q (List.mem_append_right _ hq)
      exact ⟨hw, fun i hi => hil At (fun q hq => hAt q (List.mem_append_left _ hq)) i (by simp; omega)⟩
    · simpa using hts
    · intro a ha q hq
      rcases List.mem_cons.mp hq with rfl | hq
      · exact hof a ha _ (.head _)
      · rcases List.mem_cons.mp hq with rfl | hq
        · exact f1 a ha _ (.head _)
        · rcases List.mem_append.mp hq with hq | hq
          · exact f1 a ha q (.tail _ hq)
          · exact hof a ha q (.tail _ hq)
end Mine

section
open PySem.Spec
namespace Mine
set_option maxRecDepth 100000
set_option maxHeartbeats 4000000
abbrev NatsAre (vs : List Value) (l : List Nat) : Prop := IntsAre vs (l.map fun k : Nat => ((k : Nat) : Int))
theorem nats_snoc {ys : List Value} {i : Nat} {t : Nat → Bool} {f : Nat → Nat} {tt : Tok} (ht : t i = true) (h : NatsAre ys (((List.range i).filter t).map f)) : NatsAre (ys ++ [.int (f i : Int) tt]) (((List.range (i + 1)).filter t).map f) := by
  rw [List.range_succ, List.filter_append, List.map_append]
  show IntsAre _ (List.map _ (_ ++ _))
  rw [List.map_append]
  refine IntsAre.append h ?_
  rw [List.filter_cons_of_pos ht]
  exact .cons _ _ .nil
theorem off1_mem {D : Addr} : ∀ {l : List (Addr × Obj)}, LCg.Off1 D l → ∀ p ∈ l, p.1 ≠ D
  | [], _ => fun _ h => nomatch h
  | _ :: _, h => fun p hp => by
    rcases List.mem_cons.mp hp with rfl | hp
    · exact h.1
    · exact off1_mem h.2 p hp
section
variable {prog : Program} {w : World} {A : Around} {E : Value → Shared → Prop} {s : Shared} {h₀ : Heap} {L : Addr} {m : Str → Option Value} {env : Env} {news : List (Addr × Obj)}
def PureI (h₀ : Heap) (L : Addr) (m : Str → Option Value) (s₁ : Shared) (all : List (Addr × Obj)) (k : Nat) (v : Value) (s₂ : Shared) : Prop :=
  (∃ t, v = .int (k : Int) t) ∧ ∃ h' tk, s₂ = { s₁ with heap := h', toks := tk } ∧ Fr h₀ L h' m ∧ News h₀ L h' all
theorem PureI.intro {s₁ : Shared} {all : List (Addr × Obj)} {k : Nat} {t : Tok} {h' : Heap} {tk : Nat} (F : Fr h₀ L h' m) (N : News h₀ L h' all) : PureI h₀ L m s₁ all k (.int (k : Int) t) { s₁ with heap := h', toks := tk } := ⟨⟨t, rfl⟩, h', tk, rfl, F, N⟩
/-- one test, the kept values are ints -/
theorem comp_I1 {ct elt iter : Expr} {x : Str} {px : Pos} {scope : Scope} {cl : List (Str × Addr)} {pos : Pos} {Q : Value → Shared → Prop} (t : Nat → Bool) (f : Nat → Nat) (F₀ : Fr h₀ L s.heap m) (_N₀ : News h₀ L s.heap news)
    (hclos : closureFor scope env = pure cl) (hcell : ∀ y ∈ scope.names, y.2 ≠ .cell) (hkind : scope.kind = .function)
    (hnames : ∀ y ∈ scope.names, y.2 = .local → scope.names.lookup y.1 = some .local) (hx : scope.names.lookup x = some .local)
    (hmain : wpAny (model prog w) A (eval iter env) (fun xv s₁ => A.handled = none ∧ Fr h₀ L s₁.heap m ∧ News h₀ L s₁.heap news ∧ ∃ n P, SrcOK h₀ news xv s₁.heap n P ∧ n ≤ sizeLine ∧
      (∀ i v I oI C oC D m₂ ys h tk (E' : Value → Shared → Prop), i < n → P i v → LCg.NsObj oC m₂ → m₂ x = some v → Fr h₀ L h m → News h₀ L h ((I, oI) :: (C, oC) :: (D, LCg.lst ys) :: news) →
        wpAny (model prog w) A (isTrue ct (compEnvC scope cl C env) (eval ct (compEnvC scope cl C env))) (fun ok s' => if ok = true then
          wpAny (model prog w) A (eval elt (compEnvC scope cl C env)) (fun y s'' => t i = true ∧ PureI h₀ L m { s₁ with heap := h, toks := tk } ((I, oI) :: (C, oC) :: (D, LCg.lst ys) :: news) (f i) y s'') E' s'
          else t i = false ∧ Pure1 h₀ L m { s₁ with heap := h, toks := tk } ((I, oI) :: (C, oC) :: (D, LCg.lst ys) :: news) .none .none s') E' { s₁ with heap := h, toks := tk }) ∧
      (∀ D ys h tk, NatsAre ys (((List.range n).filter t).map f) → Fr h₀ L h m → News h₀ L h ((D, LCg.lst ys) :: news) → (∀ p ∈ news, p.1 ≠ D) → Q (.ref D) { s₁ with heap := h, toks := tk })) E s)
    (hs : ∀ x, foldedSetIterable iter env x = pure x := by intro _; rfl) :
    wpAny (model prog w) A (eval (.ListComp elt [⟨.Name x px, iter, [ct], 0⟩] scope pos) env) Q E s := by
  refine LCt.ListComp_T F₀ hclos hcell hkind hnames hx (wpAny_mono hmain (fun xv s₁ q => ?_) fun _ _ e => e) hs
  obtain ⟨hh, F, N, n, P, src, hsz, turn, fin⟩ := q
  have key : ∀ (S : List (Addr × Obj) → Prop) (g : Heap), S news → LCt.CompRestT prog w A h₀ L m env ct elt x scope cl { s₁ with heap := g } S P (LCg.FinE h₀ L m { s₁ with heap := g } Q) n 0 [] news := by
    intro S g hS
    refine restT_inv (fun i ys nx => nx = news ∧ NatsAre ys (((List.range i).filter t).map f)) ⟨rfl, .nil⟩ ?_ ?_
    · rintro i v I oI C oC D m₂ ys nx h tk E' hi hv ⟨rfl, hys⟩ hC hx F N off ne
      refine wpAny_mono (turn i v I oI C oC D m₂ _ h tk E' hi hv hC hx F N) (fun ok s₂ q => ?_) fun _ _ e => e
      cases ok with
      | true =>
        simp only [if_true] at q ⊢
        refine wpAny_mono q (fun y s₃ q => ?_) fun _ _ e => e
        obtain ⟨ht, ⟨tt, rfl⟩, h', tk', rfl, F', N'⟩ := q
        exact LCg.CompEnd.intro F' N' nx (fun p h => h) off hS ⟨rfl, nats_snoc ht hys⟩
      | false =>
        simp only [Bool.false_eq_true, if_false] at q ⊢
        obtain ⟨ht, -, h', tk', rfl, F', N'⟩ := q
        exact LCg.CompEnd.intro F' N' nx (fun p h => h) off hS ⟨rfl, by rw [List.range_succ, List.filter_append, List.map_append]; simpa [ht] using hys⟩
    · rintro ys nx ⟨rfl, hys⟩ D h tk F N off
      exact fin D ys h tk hys F N (off1_mem off)
  rcases src with ⟨ax, its, rfl, S, rfl, rfl⟩ | ⟨r, a, b, t, u, v, rfl, hr, h1, h2, rfl⟩
  · exact .inl ⟨ax, its, news, rfl, hh, F, N, S, hsz, fun _ ⟨g, e⟩ => e ▸ key _ g S⟩
  · exact .inr ⟨r, a, b, t, u, v, n, news, rfl, hh, F, N, hr, h1, h2, hsz, fun _ ⟨g, e⟩ => e ▸ key _ g trivial⟩
end
theorem news_in {h H : Heap} {L : Addr} {D : Addr × Obj} {C10 r : List (Addr × Obj)} (N : News h L H (D :: (C10 ++ r))) : News h L H (C10 ++ D :: r) := fun p hp => N p (by
  simp only [List.mem_cons, List.mem_append] at hp ⊢
  rcases hp with h | h | h <;> simp [h])
theorem adr_of {C10 r : List (Addr × Obj)} {as : List Addr} {D : Addr} (hD : ∀ p ∈ C10 ++ r, p.1 ≠ D) (e : C10.map (·.1) = as) : ∀ a ∈ as, D ≠ a := fun a ha h => by
  subst e
  obtain ⟨z, hz, rfl⟩ := List.mem_map.mp ha
  exact hD z (List.mem_append_left _ hz) h.symm
end Mine

end
namespace Mine
set_option maxRecDepth 100000
set_option maxHeartbeats 8000000
structure LawW (chs : List (List Nat)) (cs ts : List Addr) (cl tyl : Addr) (n1 n2 : Nat) (wl : List (Addr × Obj)) (L : Addr) : Prop where
  hgd : Good chs
  hlc : chs.length ≤ 7
  hwd : ∀ At : Addr → Obj → Prop, (∀ q ∈ wl, At q.1 q.2) → Wd At chs cs ∧ TsAt At chs cs ts
  hcs : cs.length = chs.length
  hts : ts.length = chs.length
  h652 : @LT.lt Nat _ 652 L
  hof : ∀ a ∈ ([L + 1 + 1 + 1 + 1 + 1 + 1 + 1 + 1 + 1, L + 1 + 1 + 1 + 1 + 1 + 1 + 1 + 1, L + 1 + 1 + 1 + 1 + 1 + 1 + 1, L + 1 + 1 + 1 + 1 + 1 + 1, L + 1 + 1 + 1 + 1 + 1, L + 1 + 1 + 1 + 1, L + 1 + 1 + 1, L + 1 + 1, L + 1, 652] : List Addr), ∀ q ∈ (cl, listOf (cs.map Value.ref).toArray n1) :: (tyl, listOf (ts.map Value.ref).toArray n2) :: wl, q.1 ≠ a
variable {w : World} {p : Program} {loose : List Str} {mean : ExcName → Option Value} {mg mb : Str → Option Value} {qual : Str} {body : List Stmt} {scope : Scope} {g base : Heap} {L sc fa : Addr} {vs : List Value} {ns : List Int}
theorem st2 (c : LawCtx w p loose mean mg mb qual body scope g base L sc vs ns) {s : Shared} {Q : Flow → Shared → Prop} {E : Value → Shared → Prop} {o1 o2 o3 o4 o5 o6 o7 o8 o9 : Obj} {u : Str → Option Value} {v2 : Option Value}
    {chs : List (List Nat)} {cs ts : List Addr} {cl tyl : Addr} {n1 n2 : Nat} {wl : List (Addr × Obj)} (W : LawW chs cs ts cl tyl n1 n2 wl L) (d1 : cdat o1 (some (.ref cl))) (d2 : cdat o2 v2)
    (F : Fr g L s.heap (fun y => if y = Str.ofString "script" then some (.ref sc) else u y)) (N : News g L s.heap ((L + 1 + 1 + 1 + 1 + 1 + 1 + 1 + 1 + 1, o9) :: (L + 1 + 1 + 1 + 1 + 1 + 1 + 1 + 1, o8) :: (L + 1 + 1 + 1 + 1 + 1 + 1 + 1, o7) :: (L + 1 + 1 + 1 + 1 + 1 + 1, o6) :: (L + 1 + 1 + 1 + 1 + 1, o5) :: (L + 1 + 1 + 1 + 1, o4) :: (L + 1 + 1 + 1, o3) :: (L + 1 + 1, o2) :: (L + 1, o1) :: (652, tabObj #[]) :: (cl, listOf (cs.map Value.ref).toArray n1) :: (tyl, listOf (ts.map Value.ref).toArray n2) :: wl))
    (next : ∀ h' tk o2 one t, one < chs.length → cdat o2 (some (.int (one : Nat) t)) → Fr g L h' (fun y => if y = Str.ofString "script" then some (.ref sc) else u y) → News g L h' ((L + 1 + 1 + 1 + 1 + 1 + 1 + 1 + 1 + 1, o9) :: (L + 1 + 1 + 1 + 1 + 1 + 1 + 1 + 1, o8) :: (L + 1 + 1 + 1 + 1 + 1 + 1 + 1, o7) :: (L + 1 + 1 + 1 + 1 + 1 + 1, o6) :: (L + 1 + 1 + 1 + 1 + 1, o5) :: (L + 1 + 1 + 1 + 1, o4) :: (L + 1 + 1 + 1, o3) :: (L + 1 + 1, o2) :: (L + 1, o1) :: (652, tabObj #[]) :: (cl, listOf (cs.map Value.ref).toArray n1) :: (tyl, listOf (ts.map Value.ref).toArray n2) :: wl) → wpAny (model PG w) (callerA.deeper (lawEnv qual scope L fa)) (execs (body.drop 3) (lawEnv qual scope L fa)) Q E { s with heap := h', toks := tk }) :
    wpAny (model PG w) (callerA.deeper (lawEnv qual scope L fa)) (execs (body.drop 2) (lawEnv qual scope L fa)) Q E s := by
  obtain ⟨hf, K, X, TP, hl, hI, hlen, hC⟩ := c
  obtain ⟨name, params, dV, kV, doc, pm, an, cdv, ct, oc, od, osl, hf⟩ := hf
  have hf2 : (hd.heap_39 w.params).lookup 655 = some ⟨_, _, .func (fnOf _ _ _ _ _ _ _ _ _ _ _ _), _⟩ := rfl
  rw [hf2] at hf
  cases hf
  clear hf2
  dsimp only [List.drop, ifBody]
  have z1 : @Ne Nat cl (L + 1 + 1) := W.hof (L + 1 + 1) (by simp) _ (.head _)
  have z2 : @Ne Nat tyl (L + 1 + 1) := W.hof (L + 1 + 1) (by simp) _ (.tail _ (.head _))
  have z3 : ∀ q ∈ wl, q.1 ≠ (L + 1 + 1) := fun q hq => W.hof (L + 1 + 1) (by simp) q (.tail _ (.tail _ hq))
  have hcs := W.hcs
  have hlc := W.hlc
  have h652 := W.h652
  repeat ((fail_if_success (with_reducible show wpAny _ _ (call (Value.builtin _) _) _ _ _)); (first | (k_unfold; (try dsimp only)) | walk1 | (dsimp only; walk1)))
  k_dflt (refine len_at chs.length (News.isList (by k_asm) (by k_mem)) (by simp [hcs]) (by omega) ?_)
  obtain ⟨one, hone, e⟩ := fmod_idx (a := atOr ns (Int.toNat 7) 2) (n := chs.length) W.hgd.pos
  repeat ((fail_if_success (with_reducible show wpAny _ _ (storeName _ _ _) _ _ _)); (first | (k_unfold; (try dsimp only)) | walk1 | (dsimp only; walk1)))
  rw [← e]
  repeat ((fail_if_success (with_reducible show wpAny _ _ (execs _ _) _ _ _)); (first | (k_unfold; (try dsimp only)) | walk1 | (dsimp only; walk1)))
  exact next _ _ _ one _ hone (by assumption) (by assumption) (by assumption)
theorem LawW.ml {chs : List (List Nat)} {cs ts : List Addr} {cl tyl : Addr} {n1 n2 : Nat} {wl : List (Addr × Obj)} (W : LawW chs cs ts cl tyl n1 n2 wl L) : ∀ i k, k ∈ chs.getD i [] → k < chs.length := W.hgd.mem_lt
theorem LawW.ll {chs : List (List Nat)} {cs ts : List Addr} {cl tyl : Addr} {n1 n2 : Nat} {wl : List (Addr × Obj)} (W : LawW chs cs ts cl tyl n1 n2 wl L) {i : Nat} (hi : i < chs.length) : (chs.getD i []).length ≤ 100 := by
  have h1 := W.hgd.len i hi
  have h2 := W.hlc
  omega
theorem LawW.wd {chs : List (List Nat)} {cs ts : List Addr} {cl tyl : Addr} {n1 n2 : Nat} {wl : List (Addr × Obj)} (W : LawW chs cs ts cl tyl n1 n2 wl L) {h₀ h g9 : Heap} {L' : Addr} {news : List (Addr × Obj)} (N : News h₀ L' h news) (hm : ∀ q ∈ wl, q ∈ news) (G9 : ∀ b o, h.get? b = some o → g9.get? b = some o) : Wd (hAt g9) chs cs := (W.hwd _ fun q hq => G9 _ _ (N q (hm q hq)).1).1
theorem LawW.tsat {chs : List (List Nat)} {cs ts : List Addr} {cl tyl : Addr} {n1 n2 : Nat} {wl : List (Addr × Obj)} (W : LawW chs cs ts cl tyl n1 n2 wl L) {h₀ h g9 : Heap} {L' : Addr} {news : List (Addr × Obj)} (N : News h₀ L' h news) (hm : ∀ q ∈ wl, q ∈ news) (G9 : ∀ b o, h.get? b = some o → g9.get? b = some o) : TsAt (hAt g9) chs cs ts := (W.hwd _ fun q hq => G9 _ _ (N q (hm q hq)).1).2
theorem LawW.kl {chs : List (List Nat)} {cs ts : List Addr} {cl tyl : Addr} {n1 n2 : Nat} {wl : List (Addr × Obj)} (W : LawW chs cs ts cl tyl n1 n2 wl L) {i : Nat} (hi : i < chs.length) : i < cs.length := W.hcs.symm ▸ hi
theorem LawW.tl {chs : List (List Nat)} {cs ts : List Addr} {cl tyl : Addr} {n1 n2 : Nat} {wl : List (Addr × Obj)} (W : LawW chs cs ts cl tyl n1 n2 wl L) {i : Nat} (hi : i < chs.length) : i < ts.length := W.hts.symm ▸ hi
theorem LawW.kz {chs : List (List Nat)} {cs ts : List Addr} {cl tyl : Addr} {n1 n2 : Nat} {wl : List (Addr × Obj)} (W : LawW chs cs ts cl tyl n1 n2 wl L) : cs.length ≤ 1000 := by
  have := W.hcs
  have := W.hlc
  omega
theorem LawW.tz {chs : List (List Nat)} {cs ts : List Addr} {cl tyl : Addr} {n1 n2 : Nat} {wl : List (Addr × Obj)} (W : LawW chs cs ts cl tyl n1 n2 wl L) : ts.length ≤ 1000 := by
  have := W.hts
  have := W.hlc
  omega
section
variable {prog : Program} {A : Around} {E : Value → Shared → Prop} {s : Shared}
theorem item_ref {value slice : PySem.Expr} {l : Addr} {cs : List Addr} {n : Int} {i : Nat} {u : Tok} {Q : Value → Shared → Prop} (hl : s.heap.IsList l (cs.map Value.ref).toArray) (hn : n = (i : Int)) (h1 : i < cs.length) (hz : cs.length ≤ 1000) (h : Q (.ref (cs.getD i 0)) s)
    (hs : subscripted slice false (.ref l) (.int n u) = operate [.ref l, .int n u] (getItem (.ref l) (.int n u)) := by with_unfolding_all rfl) : wpAny (model prog w) A (subscriptTail value slice (.ref l) (.int n u)) Q E s := by
  subst hn
  exact item_nat hl (by omega) (by rw [List.length_map]; omega) (by rw [List.length_map]; omega) (by rw [Int.toNat_natCast, getD_map cs Value.ref i 0 .none h1]; exact h) hs
end
end Mine
local macro_rules | `(tactic| walk_at "subscriptTail") => `(tactic| (k_here; (with_reducible show wpAny _ _ (subscriptTail _ _ (Value.ref _) (Value.int _ _)) _ _ _); k_dflt (refine' Mine.item_ref ?hl ?hn ?h1 ?hz ?_ ?hs; (case hl => (refine' News.isList ?g ?i; (case g => k_asm); (case i => k_mem))); (case hn => first | exact (rfl : (0 : Int) = ((0 : Nat) : Int)) | exact Int.zero_add _ | exact rfl); (case h1 => first | exact Mine.LawW.tl (by assumption) (by assumption) | exact Mine.LawW.kl (by assumption) (by assumption) | omega); (case hz => first | exact Mine.LawW.tz (by assumption) | exact Mine.LawW.kz (by assumption) | omega); (case hs => with_unfolding_all rfl); k_whole)))
local macro_rules | `(tactic| walk_at "call ref") => `(tactic| (k_here; (with_reducible show wpAny _ _ (call (Value.ref 645) [_] []) _ _ _); k_dflt (refine' Mine.Does.use0 (Mine.law_line_does ?hi ?hg ?hlen) ?k1 ?k2 ?k3 ?k4 ?k5 ?k6 ?k7 ?k8 ?k9 ?_; (case k1 => k_asm); (case k2 => k_asm); (case k3 => k_asm); (case k4 => k_asm); (case k5 => k_asm); (case k6 => first | exact rfl | assumption); (case k7 => (intro g9 G9; exact Mine.LawW.wd (by assumption) (by assumption) (by intro q9 h9; repeat (first | exact h9 | refine List.Mem.tail _ ?_ | refine List.mem_append_right _ ?_)) G9)); (case hi => assumption); (case hg => exact Mine.LawW.hgd (by assumption)); (case hlen => exact Mine.LawW.hlc (by assumption)); (case k8 => k_room); (case k9 => k_units)); (intro _ tl' h' tk' F' N' G' S' hR'); (obtain ⟨l', n', e1', e2'⟩ := hR'; subst e1'; subst e2'); (try simp only [List.cons_append, List.nil_append] at N'); (try k_sweep)))
local macro_rules | `(tactic| walk_at "call ref") => `(tactic| (k_here; (with_reducible show wpAny _ _ (call (Value.ref 650) [_, _] []) _ _ _); k_dflt (refine' Mine.Does.use0 (Mine.law_among_does ?hj ?hl ?hlen) ?k1 ?k2 ?k3 ?k4 ?k5 ?k6 ?k7 ?k8 ?k9 ?_; (case k1 => k_asm); (case k2 => k_asm); (case k3 => k_asm); (case k4 => k_asm); (case k5 => k_asm); (case k6 => first | exact rfl | assumption); (case k7 => (intro g9 G9; exact ⟨Mine.LawW.wd (by assumption) (by assumption) (by intro q9 h9; repeat (first | exact h9 | refine List.Mem.tail _ ?_ | refine List.mem_append_right _ ?_)) G9, _, Mine.news_up (by assumption) (by k_mem) G9⟩)); (case hj => assumption); (case hl => exact Mine.LawW.ml (by assumption) _); (case hlen => exact Mine.LawW.ll (by assumption) (by assumption)); (case k8 => k_room); (case k9 => k_units)); (intro _ tl' h' tk' F' N' G' S' hR'); (obtain ⟨e1', e2'⟩ := hR'; subst e1'; subst e2'); (try simp only [List.nil_append] at N'); (try k_sweep)))
namespace Mine
set_option maxRecDepth 100000
set_option maxHeartbeats 8000000
variable {w : World} {p : Program} {loose : List Str} {mean : ExcName → Option Value} {mg mb : Str → Option Value} {qual : Str} {body : List Stmt} {scope : Scope} {g base : Heap} {L sc fa : Addr} {vs : List Value} {ns : List Int}
theorem st3 (c : LawCtx w p loose mean mg mb qual body scope g base L sc vs ns) {s : Shared} {Q : Flow → Shared → Prop} {E : Value → Shared → Prop} {o1 o2 o3 o4 o5 o6 o7 o8 o9 : Obj} {u : Str → Option Value} {v4 : Option Value}
    {chs : List (List Nat)} {cs ts : List Addr} {cl tyl : Addr} {n1 n2 : Nat} {wl : List (Addr × Obj)} (W : LawW chs cs ts cl tyl n1 n2 wl L) {one : Nat} {t1 : Tok} (hone : one < chs.length) (d1 : cdat o1 (some (.ref cl))) (d2 : cdat o2 (some (.int (one : Nat) t1))) (d4 : cdat o4 v4)
    (F : Fr g L s.heap (fun y => if y = Str.ofString "script" then some (.ref sc) else u y)) (N : News g L s.heap ((L + 1 + 1 + 1 + 1 + 1 + 1 + 1 + 1 + 1, o9) :: (L + 1 + 1 + 1 + 1 + 1 + 1 + 1 + 1, o8) :: (L + 1 + 1 + 1 + 1 + 1 + 1 + 1, o7) :: (L + 1 + 1 + 1 + 1 + 1 + 1, o6) :: (L + 1 + 1 + 1 + 1 + 1, o5) :: (L + 1 + 1 + 1 + 1, o4) :: (L + 1 + 1 + 1, o3) :: (L + 1 + 1, o2) :: (L + 1, o1) :: (652, tabObj #[]) :: (cl, listOf (cs.map Value.ref).toArray n1) :: (tyl, listOf (ts.map Value.ref).toArray n2) :: wl))
    (next : ∀ h' tk o4 al ys n3, NatsAre ys ((List.range chs.length).filter fun k => (chs.getD one []).any (· == k)) → (∀ a ∈ ([L + 1 + 1 + 1 + 1 + 1 + 1 + 1 + 1 + 1, L + 1 + 1 + 1 + 1 + 1 + 1 + 1 + 1, L + 1 + 1 + 1 + 1 + 1 + 1 + 1, L + 1 + 1 + 1 + 1 + 1 + 1, L + 1 + 1 + 1 + 1 + 1, L + 1 + 1 + 1 + 1, L + 1 + 1 + 1, L + 1 + 1, L + 1, 652] : List Addr), al ≠ a) → cdat o4 (some (.ref al)) → Fr g L h' (fun y => if y = Str.ofString "script" then some (.ref sc) else u y) → News g L h' ((L + 1 + 1 + 1 + 1 + 1 + 1 + 1 + 1 + 1, o9) :: (L + 1 + 1 + 1 + 1 + 1 + 1 + 1 + 1, o8) :: (L + 1 + 1 + 1 + 1 + 1 + 1 + 1, o7) :: (L + 1 + 1 + 1 + 1 + 1 + 1, o6) :: (L + 1 + 1 + 1 + 1 + 1, o5) :: (L + 1 + 1 + 1 + 1, o4) :: (L + 1 + 1 + 1, o3) :: (L + 1 + 1, o2) :: (L + 1, o1) :: (652, tabObj #[]) :: (al, listOf ys.toArray n3) :: (cl, listOf (cs.map Value.ref).toArray n1) :: (tyl, listOf (ts.map Value.ref).toArray n2) :: wl) → wpAny (model PG w) (callerA.deeper (lawEnv qual scope L fa)) (execs (body.drop 4) (lawEnv qual scope L fa)) Q E { s with heap := h', toks := tk }) :
    wpAny (model PG w) (callerA.deeper (lawEnv qual scope L fa)) (execs (body.drop 3) (lawEnv qual scope L fa)) Q E s := by
  obtain ⟨hf, K, X, TP, hl, hI, hlen, hC⟩ := c
  obtain ⟨name, params, dV, kV, doc, pm, an, cdv, ct, oc, od, osl, hf⟩ := hf
  have hf2 : (hd.heap_39 w.params).lookup 655 = some ⟨_, _, .func (fnOf _ _ _ _ _ _ _ _ _ _ _ _), _⟩ := rfl
  rw [hf2] at hf
  cases hf
  clear hf2
  dsimp only [List.drop, ifBody]
  have z1 : @Ne Nat cl (L + 1 + 1 + 1 + 1) := W.hof (L + 1 + 1 + 1 + 1) (by simp) _ (.head _)
  have z2 : @Ne Nat tyl (L + 1 + 1 + 1 + 1) := W.hof (L + 1 + 1 + 1 + 1) (by simp) _ (.tail _ (.head _))
  have z3 : ∀ q ∈ wl, q.1 ≠ (L + 1 + 1 + 1 + 1) := fun q hq => W.hof (L + 1 + 1 + 1 + 1) (by simp) q (.tail _ (.tail _ hq))
  have hcs := W.hcs
  have hlc := W.hlc
  have h652 := W.h652
  repeat ((fail_if_success (with_reducible show wpAny _ _ (eval (PySem.Expr.ListComp _ _ _ _) _) _ _ _)); (first | (k_unfold; (try dsimp only)) | walk1 | (dsimp only; walk1)))
  rename Fr _ _ _ _ => F₀
  rename News _ _ _ _ => N₀
  k_dflt (refine comp_I1 (fun k => (chs.getD one []).any (· == k)) (fun k => k) F₀ N₀ (by with_unfolding_all rfl) (by decide) rfl (by decide) (by rfl) ?_)
  repeat ((fail_if_success (with_reducible show wpAny _ _ (call (Value.builtin _) _) _ _ _)); (first | (k_unfold; (try dsimp only)) | walk1 | (dsimp only; walk1)))
  k_dflt (refine len_at chs.length (News.isList (by k_asm) (by k_mem)) (by simp [hcs]) (by omega) ?_)
  repeat ((fail_if_success (with_reducible show wpAny _ _ (call (Value.type _) _) _ _ _)); (first | (k_unfold; (try dsimp only)) | walk1 | (dsimp only; walk1)))
  k_dflt (refine range_lt (by k_asm) (by k_asm) ?_)
  intro r h' tk u1 u2 F' N' l2
  refine ⟨rfl, F', news_drop1 N', chs.length, _, .range (N' _ (.head _)).1 (range_ok chs.length (by omega)).1 (range_ok chs.length (by omega)).2, by unfold sizeLine; omega, ?_, ?_⟩
  · rintro i v I oI C oC D m₂ ys h tk E' hi ⟨t, rfl⟩ hC hm F₁ N₁
    clear F₀ N₀ F' N'
    k_steps
    · rw [Int.zero_add]
      exact PureI.intro (by assumption) (news_drop1 (by assumption))
    · exact Pure1.intro rfl (by assumption) (news_drop1 (by assumption))
  · rintro D ys h tk hys F₁ N₁ hD
    clear F₀ N₀ F' N'
    rw [List.map_id'] at hys
    have hal := adr_of (C10 := (L + 1 + 1 + 1 + 1 + 1 + 1 + 1 + 1 + 1, o9) :: (L + 1 + 1 + 1 + 1 + 1 + 1 + 1 + 1, o8) :: (L + 1 + 1 + 1 + 1 + 1 + 1 + 1, o7) :: (L + 1 + 1 + 1 + 1 + 1 + 1, o6) :: (L + 1 + 1 + 1 + 1 + 1, o5) :: (L + 1 + 1 + 1 + 1, o4) :: (L + 1 + 1 + 1, o3) :: (L + 1 + 1, o2) :: (L + 1, o1) :: (652, tabObj #[]) :: []) (as := [L + 1 + 1 + 1 + 1 + 1 + 1 + 1 + 1 + 1, L + 1 + 1 + 1 + 1 + 1 + 1 + 1 + 1, L + 1 + 1 + 1 + 1 + 1 + 1 + 1, L + 1 + 1 + 1 + 1 + 1 + 1, L + 1 + 1 + 1 + 1 + 1, L + 1 + 1 + 1 + 1, L + 1 + 1 + 1, L + 1 + 1, L + 1, 652]) hD rfl
    have N₂ : News g L h ((L + 1 + 1 + 1 + 1 + 1 + 1 + 1 + 1 + 1, o9) :: (L + 1 + 1 + 1 + 1 + 1 + 1 + 1 + 1, o8) :: (L + 1 + 1 + 1 + 1 + 1 + 1 + 1, o7) :: (L + 1 + 1 + 1 + 1 + 1 + 1, o6) :: (L + 1 + 1 + 1 + 1 + 1, o5) :: (L + 1 + 1 + 1 + 1, o4) :: (L + 1 + 1 + 1, o3) :: (L + 1 + 1, o2) :: (L + 1, o1) :: (652, tabObj #[]) :: (D, listOf ys.toArray _) :: (cl, listOf (cs.map Value.ref).toArray n1) :: (tyl, listOf (ts.map Value.ref).toArray n2) :: wl) := news_in (C10 := (L + 1 + 1 + 1 + 1 + 1 + 1 + 1 + 1 + 1, o9) :: (L + 1 + 1 + 1 + 1 + 1 + 1 + 1 + 1, o8) :: (L + 1 + 1 + 1 + 1 + 1 + 1 + 1, o7) :: (L + 1 + 1 + 1 + 1 + 1 + 1, o6) :: (L + 1 + 1 + 1 + 1 + 1, o5) :: (L + 1 + 1 + 1 + 1, o4) :: (L + 1 + 1 + 1, o3) :: (L + 1 + 1, o2) :: (L + 1, o1) :: (652, tabObj #[]) :: []) N₁
    clear N₁
    have z4 : @Ne Nat D (L + 1 + 1 + 1 + 1) := hal _ (by simp)
    repeat ((fail_if_success (with_reducible show wpAny _ _ (execs _ _) _ _ _)); (first | (k_unfold; (try dsimp only)) | walk1 | (dsimp only; walk1)))
    exact next _ _ _ D ys _ hys hal (by assumption) (by assumption) (by assumption)
end Mine

section
open PySem.Spec
namespace Mine
set_option maxRecDepth 100000
section
variable {prog : Program} {w : World} {A : Around} {E : Value → Shared → Prop} {s : Shared}
abbrev isN (p : Nat) : Value → Bool
  | .int n _ => n == (p : Int)
  | _ => false
theorem nats_any (p : Nat) : ∀ (l : List Nat) {ys : List Value}, NatsAre ys l → ys.any (isN p) = l.contains p
  | [], ys, h => by cases h; rfl
  | k :: l, ys, h => by
    cases h with
    | cons n t h =>
      rw [List.any_cons, nats_any p l h, List.contains_cons]
      congr 1
      show ((k : Int) == (p : Int)) = (p == k)
      rw [Bool.eq_iff_iff, beq_iff_eq, beq_iff_eq]
      omega
theorem nats_eqAt {p : Nat} {t : Tok} {l : List Nat} {ys : List Value} (h : NatsAre ys l) : ∀ y, y ∈ ys.toArray → SeqAt.EqAt A.in1 s y (.int (p : Int) t) (isN p y) := fun y hy => by
  obtain ⟨n, t', rfl⟩ := IntsAre.all h y (by simpa using hy)
  exact (MeetsSeq.EqGives.int n p t' t).at _ _
theorem in_nats {a : Addr} {ys : List Value} {l : List Nat} {p : Nat} {t : Tok} {Q : Value → Shared → Prop} (hl : s.heap.IsList a ys.toArray) (hi : NatsAre ys l) (h : Q (.bool (l.contains p)) s) : wpAny (model prog w) A (compareOp .In (.int (p : Int) t) (.ref a)) Q E s :=
  SeqAt.in_listAt (isN p) hl (nats_eqAt hi) (by rw [List.any_toArray, nats_any p l hi]; exact h)
theorem notin_nats {a : Addr} {ys : List Value} {l : List Nat} {p : Nat} {t : Tok} {Q : Value → Shared → Prop} (hl : s.heap.IsList a ys.toArray) (hi : NatsAre ys l) (h : Q (.bool (!l.contains p)) s) : wpAny (model prog w) A (compareOp .NotIn (.int (p : Int) t) (.ref a)) Q E s :=
  SeqAt.notIn_listAt (isN p) hl (nats_eqAt hi) (by rw [List.any_toArray, nats_any p l hi]; exact h)
end
theorem adr_lt {C10 r : List (Addr × Obj)} {as : List Addr} {D : Addr} (hD : ∀ p ∈ C10 ++ r, @LT.lt Nat _ p.1 D) (e : C10.map (·.1) = as) : (∀ a ∈ as, @LT.lt Nat _ a D) ∧ ∀ p ∈ r, @LT.lt Nat _ p.1 D := by
  refine ⟨fun a ha => ?_, fun p hp => hD p (List.mem_append_right _ hp)⟩
  subst e
  obtain ⟨z, hz, rfl⟩ := List.mem_map.mp ha
  exact hD z (List.mem_append_left _ hz)
theorem news_out {h H : Heap} {L : Addr} {D : Addr × Obj} {C10 r own : List (Addr × Obj)} (N : News h L H ((C10 ++ D :: r) ++ own)) : News h L H (D :: ((C10 ++ r) ++ own)) := fun p hp => N p (by
  simp only [List.mem_cons, List.mem_append] at hp ⊢
  rcases hp with h | (h | h) | h <;> simp [h])
theorem news_back {h H : Heap} {L : Addr} {D : Addr × Obj} {C10 r own : List (Addr × Obj)} (N : News h L H (D :: ((C10 ++ r) ++ own))) : News h L H ((C10 ++ D :: r) ++ own) := fun p hp => N p (by
  simp only [List.mem_cons, List.mem_append] at hp ⊢
  rcases hp with (h | h | h) | h <;> simp [h])
theorem off_out {C10 r own : List (Addr × Obj)} {as : List Addr} {D : Addr} (l1 : ∀ a ∈ as, @LT.lt Nat _ a D) (e : C10.map (·.1) = as) (l2 : ∀ p ∈ r, @LT.lt Nat _ p.1 D) (ho : ∀ p ∈ own, p.1 ≠ D) : ∀ p ∈ (C10 ++ r) ++ own, p.1 ≠ D := fun p hp => by
  subst e
  rcases List.mem_append.mp hp with hp | hp
  · rcases List.mem_append.mp hp with hp | hp
    · exact Nat.ne_of_lt (l1 _ (List.mem_map_of_mem hp))
    · exact Nat.ne_of_lt (l2 p hp)
  · exact ho p hp
theorem news_tail {h H : Heap} {L : Addr} {tl P wl : List (Addr × Obj)} (N : News h L H (tl ++ (P ++ wl))) : News h L H (P ++ (tl ++ wl)) := fun p hp => N p (by
  simp only [List.mem_append] at hp ⊢
  rcases hp with h | h | h <;> simp [h])
theorem LawW.more {chs : List (List Nat)} {cs ts : List Addr} {cl tyl : Addr} {n1 n2 : Nat} {wl : List (Addr × Obj)} {L : Addr} (W : LawW chs cs ts cl tyl n1 n2 wl L) {tl : List (Addr × Obj)} (htl : ∀ a ∈ ([L + 1 + 1 + 1 + 1 + 1 + 1 + 1 + 1 + 1, L + 1 + 1 + 1 + 1 + 1 + 1 + 1 + 1, L + 1 + 1 + 1 + 1 + 1 + 1 + 1, L + 1 + 1 + 1 + 1 + 1 + 1, L + 1 + 1 + 1 + 1 + 1, L + 1 + 1 + 1 + 1, L + 1 + 1 + 1, L + 1 + 1, L + 1, 652] : List Addr), ∀ q ∈ tl, q.1 ≠ a) : LawW chs cs ts cl tyl n1 n2 (tl ++ wl) L :=
  ⟨W.hgd, W.hlc, fun At hAt => W.hwd At fun q hq => hAt q (List.mem_append_right _ hq), W.hcs, W.hts, W.h652, fun a ha q hq => by
    rcases List.mem_cons.mp hq with rfl | hq
    · exact W.hof a ha _ (.head _)
    · rcases List.mem_cons.mp hq with rfl | hq
      · exact W.hof a ha _ (.tail _ (.head _))
      · rcases List.mem_append.mp hq with hq | hq
        · exact htl a ha q hq
        · exact W.hof a ha q (.tail _ (.tail _ hq))⟩
theorem news_dropm {h H : Heap} {L : Addr} {x : Addr × Obj} {tl r : List (Addr × Obj)} (N : News h L H (tl ++ x :: r)) : News h L H (tl ++ r) := fun p hp => N p (by
  simp only [List.mem_append, List.mem_cons] at hp ⊢
  rcases hp with h | h <;> simp [h])
theorem nats_empty {ys : List Value} {l : List Nat} (h : NatsAre ys l) : ys.isEmpty = l.isEmpty := by
  cases l with
  | nil => cases h; rfl
  | cons k l => cases h; rfl
theorem nats_push {ys : List Value} {l : List Nat} {p : Nat} {t : Tok} (h : NatsAre ys l) : NatsAre (ys ++ [.int (p : Int) t]) (l ++ [p]) := by
  show IntsAre _ ((l ++ [p]).map _)
  rw [List.map_append]
  exact IntsAre.append h (.cons _ _ .nil)
theorem nats_len {ys : List Value} {l : List Nat} (h : NatsAre ys l) : ys.length = l.length := by
  have := IntsAre.length h
  simpa using this
theorem nats_at {ys : List Value} {l : List Nat} {i : Nat} {v : Value} (h : NatsAre ys l) (hv : ys[i]? = some v) : ∃ k t, l[i]? = some k ∧ v = .int (k : Nat) t := by
  obtain ⟨n, t, rfl, e⟩ := IntsAre.at h i v hv
  simp only [List.getElem?_map, Option.map_eq_some_iff] at e
  obtain ⟨k, e, rfl⟩ := e
  exact ⟨k, t, e, rfl⟩
theorem fr_norm2 {g h : Heap} {L : Addr} {a b c : Option Value} {u : Str → Option Value} {x z y : Str} (hx : y ≠ x) (hz : y ≠ z) (F : Fr g L h (fun q => if q = x then a else if q = z then b else if q = y then c else u q)) :
    Fr g L h (fun q => if q = y then c else (fun q => if q = x then a else if q = z then b else u q) q) := by
  have e : (fun q => if q = x then a else if q = z then b else if q = y then c else u q) = fun q => if q = y then c else (fun q => if q = x then a else if q = z then b else u q) q := by
    funext q
    by_cases h1 : q = y
    · subst h1; simp [hx, hz]
    · simp [h1]
  rw [e] at F
  exact F
theorem fr_norm1 {g h : Heap} {L : Addr} {a c : Option Value} {u : Str → Option Value} {x y : Str} (hx : y ≠ x) (F : Fr g L h (fun q => if q = x then a else if q = y then c else u q)) :
    Fr g L h (fun q => if q = y then c else (fun q => if q = x then a else u q) q) := by
  have e : (fun q => if q = x then a else if q = y then c else u q) = fun q => if q = y then c else (fun q => if q = x then a else u q) q := by
    funext q
    by_cases h1 : q = y
    · subst h1; simp [hx]
    · simp [h1]
  rw [e] at F
  exact F
end Mine
end
local macro_rules | `(tactic| walk_at "compareOp In int ref") => `(tactic| (k_here; (with_reducible show wpAny _ _ (compareOp CmpOp.In (Value.int _ _) (Value.ref _)) _ _ _); k_dflt (refine' Mine.in_nats ?hl ?hi ?_; (case hl => (refine' News.isList ?g ?i; (case g => k_asm); (case i => k_mem))); (case hi => assumption); k_whole)))
local macro_rules | `(tactic| walk_at "compareOp NotIn int ref") => `(tactic| (k_here; (with_reducible show wpAny _ _ (compareOp CmpOp.NotIn (Value.int _ _) (Value.ref _)) _ _ _); k_dflt (refine' Mine.notin_nats ?hl ?hi ?_; (case hl => (refine' News.isList ?g ?i; (case g => k_asm); (case i => k_mem))); (case hi => assumption); k_whole)))
namespace Mine
set_option maxRecDepth 100000
set_option maxHeartbeats 8000000
variable {w : World} {p : Program} {loose : List Str} {mean : ExcName → Option Value} {mg mb : Str → Option Value} {qual : Str} {body : List Stmt} {scope : Scope} {g base : Heap} {L sc fa : Addr} {vs : List Value} {ns : List Int}
theorem st4 (c : LawCtx w p loose mean mg mb qual body scope g base L sc vs ns) {s : Shared} {Q : Flow → Shared → Prop} {E : Value → Shared → Prop} {o1 o2 o3 o4 o5 o6 o7 o8 o9 : Obj} {u : Str → Option Value} {chs : List (List Nat)} {cs ts : List Addr} {cl tyl : Addr} {n1 n2 : Nat} {wl : List (Addr × Obj)} (W : LawW chs cs ts cl tyl n1 n2 wl L) {v5 : Option Value} {al : Addr} {ya : List Value} {n3 : Nat} (hal : ∀ a ∈ ([L + 1 + 1 + 1 + 1 + 1 + 1 + 1 + 1 + 1, L + 1 + 1 + 1 + 1 + 1 + 1 + 1 + 1, L + 1 + 1 + 1 + 1 + 1 + 1 + 1, L + 1 + 1 + 1 + 1 + 1 + 1, L + 1 + 1 + 1 + 1 + 1, L + 1 + 1 + 1 + 1, L + 1 + 1 + 1, L + 1 + 1, L + 1, 652] : List Addr), al ≠ a) (d5 : cdat o5 v5)
    (F : Fr g L s.heap (fun y => if y = Str.ofString "script" then some (.ref sc) else u y)) (N : News g L s.heap ((L + 1 + 1 + 1 + 1 + 1 + 1 + 1 + 1 + 1, o9) :: (L + 1 + 1 + 1 + 1 + 1 + 1 + 1 + 1, o8) :: (L + 1 + 1 + 1 + 1 + 1 + 1 + 1, o7) :: (L + 1 + 1 + 1 + 1 + 1 + 1, o6) :: (L + 1 + 1 + 1 + 1 + 1, o5) :: (L + 1 + 1 + 1 + 1, o4) :: (L + 1 + 1 + 1, o3) :: (L + 1 + 1, o2) :: (L + 1, o1) :: (652, tabObj #[]) :: (al, listOf ya.toArray n3) :: (cl, listOf (cs.map Value.ref).toArray n1) :: (tyl, listOf (ts.map Value.ref).toArray n2) :: wl))
    (next : ∀ h' tk o5 vl, (∀ a ∈ ([L + 1 + 1 + 1 + 1 + 1 + 1 + 1 + 1 + 1, L + 1 + 1 + 1 + 1 + 1 + 1 + 1 + 1, L + 1 + 1 + 1 + 1 + 1 + 1 + 1, L + 1 + 1 + 1 + 1 + 1 + 1, L + 1 + 1 + 1 + 1 + 1, L + 1 + 1 + 1 + 1, L + 1 + 1 + 1, L + 1 + 1, L + 1, 652] : List Addr), @LT.lt Nat _ a vl) → (∀ p ∈ (al, listOf ya.toArray n3) :: (cl, listOf (cs.map Value.ref).toArray n1) :: (tyl, listOf (ts.map Value.ref).toArray n2) :: wl, @LT.lt Nat _ p.1 vl) → cdat o5 (some (.ref vl)) → Fr g L h' (fun y => if y = Str.ofString "script" then some (.ref sc) else u y) → News g L h' ((L + 1 + 1 + 1 + 1 + 1 + 1 + 1 + 1 + 1, o9) :: (L + 1 + 1 + 1 + 1 + 1 + 1 + 1 + 1, o8) :: (L + 1 + 1 + 1 + 1 + 1 + 1 + 1, o7) :: (L + 1 + 1 + 1 + 1 + 1 + 1, o6) :: (L + 1 + 1 + 1 + 1 + 1, o5) :: (L + 1 + 1 + 1 + 1, o4) :: (L + 1 + 1 + 1, o3) :: (L + 1 + 1, o2) :: (L + 1, o1) :: (652, tabObj #[]) :: (vl, listOf #[] 0) :: (al, listOf ya.toArray n3) :: (cl, listOf (cs.map Value.ref).toArray n1) :: (tyl, listOf (ts.map Value.ref).toArray n2) :: wl) → wpAny (model PG w) (callerA.deeper (lawEnv qual scope L fa)) (execs (body.drop 5) (lawEnv qual scope L fa)) Q E { s with heap := h', toks := tk }) :
    wpAny (model PG w) (callerA.deeper (lawEnv qual scope L fa)) (execs (body.drop 4) (lawEnv qual scope L fa)) Q E s := by
  obtain ⟨hf, K, X, TP, hl, hI, hlen, hC⟩ := c
  obtain ⟨name, params, dV, kV, doc, pm, an, cdv, ct, oc, od, osl, hf⟩ := hf
  have hf2 : (hd.heap_39 w.params).lookup 655 = some ⟨_, _, .func (fnOf _ _ _ _ _ _ _ _ _ _ _ _), _⟩ := rfl
  rw [hf2] at hf
  cases hf
  clear hf2
  dsimp only [List.drop, ifBody]
  have z1 : @Ne Nat cl (L + 1 + 1 + 1 + 1 + 1) := W.hof (L + 1 + 1 + 1 + 1 + 1) (by simp) _ (.head _)
  have z2 : @Ne Nat tyl (L + 1 + 1 + 1 + 1 + 1) := W.hof (L + 1 + 1 + 1 + 1 + 1) (by simp) _ (.tail _ (.head _))
  have z3 : ∀ q ∈ wl, q.1 ≠ (L + 1 + 1 + 1 + 1 + 1) := fun q hq => W.hof (L + 1 + 1 + 1 + 1 + 1) (by simp) q (.tail _ (.tail _ hq))
  have hcs := W.hcs
  have hts := W.hts
  have hlc := W.hlc
  have h652 := W.h652
  have hpos := W.hgd.pos
  have z4 : @Ne Nat al (L + 1 + 1 + 1 + 1 + 1) := hal _ (by simp)
  repeat ((fail_if_success (with_reducible show wpAny _ _ (newList _) _ _ _)); (first | (k_unfold; (try dsimp only)) | walk1 | (dsimp only; walk1)))
  rename Fr _ _ _ _ => F₀
  rename News _ _ _ _ => N₀
  k_dflt (refine newList_lt F₀ N₀ ?_ (Nat.le_of_ble_eq_true rfl))
  intro vl h' F' N' l1 lx
  clear F₀ N₀
  have N₂ : News g L h' ((L + 1 + 1 + 1 + 1 + 1 + 1 + 1 + 1 + 1, o9) :: (L + 1 + 1 + 1 + 1 + 1 + 1 + 1 + 1, o8) :: (L + 1 + 1 + 1 + 1 + 1 + 1 + 1, o7) :: (L + 1 + 1 + 1 + 1 + 1 + 1, o6) :: (L + 1 + 1 + 1 + 1 + 1, o5) :: (L + 1 + 1 + 1 + 1, o4) :: (L + 1 + 1 + 1, o3) :: (L + 1 + 1, o2) :: (L + 1, o1) :: (652, tabObj #[]) :: (vl, listOf #[] 0) :: (al, listOf ya.toArray n3) :: (cl, listOf (cs.map Value.ref).toArray n1) :: (tyl, listOf (ts.map Value.ref).toArray n2) :: wl) := news_in (C10 := (L + 1 + 1 + 1 + 1 + 1 + 1 + 1 + 1 + 1, o9) :: (L + 1 + 1 + 1 + 1 + 1 + 1 + 1 + 1, o8) :: (L + 1 + 1 + 1 + 1 + 1 + 1 + 1, o7) :: (L + 1 + 1 + 1 + 1 + 1 + 1, o6) :: (L + 1 + 1 + 1 + 1 + 1, o5) :: (L + 1 + 1 + 1 + 1, o4) :: (L + 1 + 1 + 1, o3) :: (L + 1 + 1, o2) :: (L + 1, o1) :: (652, tabObj #[]) :: []) N'
  clear N'
  have l2 := adr_lt (C10 := (L + 1 + 1 + 1 + 1 + 1 + 1 + 1 + 1 + 1, o9) :: (L + 1 + 1 + 1 + 1 + 1 + 1 + 1 + 1, o8) :: (L + 1 + 1 + 1 + 1 + 1 + 1 + 1, o7) :: (L + 1 + 1 + 1 + 1 + 1 + 1, o6) :: (L + 1 + 1 + 1 + 1 + 1, o5) :: (L + 1 + 1 + 1 + 1, o4) :: (L + 1 + 1 + 1, o3) :: (L + 1 + 1, o2) :: (L + 1, o1) :: (652, tabObj #[]) :: []) (as := [L + 1 + 1 + 1 + 1 + 1 + 1 + 1 + 1 + 1, L + 1 + 1 + 1 + 1 + 1 + 1 + 1 + 1, L + 1 + 1 + 1 + 1 + 1 + 1 + 1, L + 1 + 1 + 1 + 1 + 1 + 1, L + 1 + 1 + 1 + 1 + 1, L + 1 + 1 + 1 + 1, L + 1 + 1 + 1, L + 1 + 1, L + 1, 652]) l1 rfl
  have z5 : @Ne Nat vl (L + 1 + 1 + 1 + 1 + 1) := Nat.ne_of_gt (l1 ((L + 1 + 1 + 1 + 1 + 1), o5) (by simp))
  repeat ((fail_if_success (with_reducible show wpAny _ _ (execs _ _) _ _ _)); (first | (k_unfold; (try dsimp only)) | walk1 | (dsimp only; walk1)))
  exact next _ _ _ vl l2.1 l2.2 (by assumption) (by assumption) (by assumption)
theorem st5 (c : LawCtx w p loose mean mg mb qual body scope g base L sc vs ns) {s : Shared} {Q : Flow → Shared → Prop} {E : Value → Shared → Prop} {o1 o2 o3 o4 o5 o6 o7 o8 o9 : Obj} {u : Str → Option Value} {chs : List (List Nat)} {cs ts : List Addr} {cl tyl : Addr} {n1 n2 : Nat} {wl : List (Addr × Obj)} (W : LawW chs cs ts cl tyl n1 n2 wl L) {al vl : Addr} {ya : List Value} {n3 : Nat} (l1 : ∀ a ∈ ([L + 1 + 1 + 1 + 1 + 1 + 1 + 1 + 1 + 1, L + 1 + 1 + 1 + 1 + 1 + 1 + 1 + 1, L + 1 + 1 + 1 + 1 + 1 + 1 + 1, L + 1 + 1 + 1 + 1 + 1 + 1, L + 1 + 1 + 1 + 1 + 1, L + 1 + 1 + 1 + 1, L + 1 + 1 + 1, L + 1 + 1, L + 1, 652] : List Addr), @LT.lt Nat _ a vl) (l2 : ∀ p ∈ (al, listOf ya.toArray n3) :: (cl, listOf (cs.map Value.ref).toArray n1) :: (tyl, listOf (ts.map Value.ref).toArray n2) :: wl, @LT.lt Nat _ p.1 vl) (d1 : cdat o1 (some (.ref cl))) (d5 : cdat o5 (some (.ref vl)))
    (F : Fr g L s.heap (fun y => if y = Str.ofString "script" then some (.ref sc) else u y)) (N : News g L s.heap ((L + 1 + 1 + 1 + 1 + 1 + 1 + 1 + 1 + 1, o9) :: (L + 1 + 1 + 1 + 1 + 1 + 1 + 1 + 1, o8) :: (L + 1 + 1 + 1 + 1 + 1 + 1 + 1, o7) :: (L + 1 + 1 + 1 + 1 + 1 + 1, o6) :: (L + 1 + 1 + 1 + 1 + 1, o5) :: (L + 1 + 1 + 1 + 1, o4) :: (L + 1 + 1 + 1, o3) :: (L + 1 + 1, o2) :: (L + 1, o1) :: (652, tabObj #[]) :: (vl, listOf #[] 0) :: (al, listOf ya.toArray n3) :: (cl, listOf (cs.map Value.ref).toArray n1) :: (tyl, listOf (ts.map Value.ref).toArray n2) :: wl))
    (hE : PassesOwn (model PG w) (callerA.deeper (lawEnv qual scope L fa)) (lawEnv qual scope L fa) E)
    (next : ∀ h' tk yv l n4 (u : Str → Option Value), NatsAre yv l → l.Nodup → (∀ k ∈ l, k < chs.length) → l.length ≤ 4 → Fr g L h' (fun y => if y = Str.ofString "script" then some (.ref sc) else u y) → News g L h' ((L + 1 + 1 + 1 + 1 + 1 + 1 + 1 + 1 + 1, o9) :: (L + 1 + 1 + 1 + 1 + 1 + 1 + 1 + 1, o8) :: (L + 1 + 1 + 1 + 1 + 1 + 1 + 1, o7) :: (L + 1 + 1 + 1 + 1 + 1 + 1, o6) :: (L + 1 + 1 + 1 + 1 + 1, o5) :: (L + 1 + 1 + 1 + 1, o4) :: (L + 1 + 1 + 1, o3) :: (L + 1 + 1, o2) :: (L + 1, o1) :: (652, tabObj #[]) :: (vl, listOf yv.toArray n4) :: (al, listOf ya.toArray n3) :: (cl, listOf (cs.map Value.ref).toArray n1) :: (tyl, listOf (ts.map Value.ref).toArray n2) :: wl) → wpAny (model PG w) (callerA.deeper (lawEnv qual scope L fa)) (execs (body.drop 6) (lawEnv qual scope L fa)) Q E { s with heap := h', toks := tk }) :
    wpAny (model PG w) (callerA.deeper (lawEnv qual scope L fa)) (execs (body.drop 5) (lawEnv qual scope L fa)) Q E s := by
  obtain ⟨hf, K, X, TP, hl, hI, hlen, hC⟩ := c
  obtain ⟨name, params, dV, kV, doc, pm, an, cdv, ct, oc, od, osl, hf⟩ := hf
  have hf2 : (hd.heap_39 w.params).lookup 655 = some ⟨_, _, .func (fnOf _ _ _ _ _ _ _ _ _ _ _ _), _⟩ := rfl
  rw [hf2] at hf
  cases hf
  clear hf2
  dsimp only [List.drop, ifBody]
  have hcs := W.hcs
  have hts := W.hts
  have hlc := W.hlc
  have h652 := W.h652
  have hpos := W.hgd.pos
  repeat ((fail_if_success (with_reducible show wpAny _ _ (exec (Stmt.For _ _ _ _ _) _) _ _ _)); (first | (k_unfold; (try dsimp only)) | walk1 | (dsimp only; walk1)))
  k_dflt (refine For_invV g (by rfl) (by rfl) ?_ (hE := hE))
  repeat ((fail_if_success (with_reducible show wpAny _ _ (call (Value.type _) _) _ _ _)); (first | (k_unfold; (try dsimp only)) | walk1 | (dsimp only; walk1)))
  obtain ⟨many, hmany, em⟩ := fmod_idx (a := atOr ns (Int.toNat 8) 2) (n := 5) (by omega)
  rw [show ((5 : Nat) : Int) = 5 from rfl] at em
  rw [← em]
  k_dflt (refine range_lt (by k_asm) (by k_asm) ?_)
  intro r h' tk u1 u2 F' N' l3
  dsimp only
  with_unfolding_all refine loopRz (z := Str.ofString "pick") (n := many) (fun i nx => ∃ yv l n4, NatsAre yv l ∧ l.Nodup ∧ (∀ k ∈ l, k < chs.length) ∧ l.length ≤ i ∧ nx = (L + 1 + 1 + 1 + 1 + 1 + 1 + 1 + 1 + 1, o9) :: (L + 1 + 1 + 1 + 1 + 1 + 1 + 1 + 1, o8) :: (L + 1 + 1 + 1 + 1 + 1 + 1 + 1, o7) :: (L + 1 + 1 + 1 + 1 + 1 + 1, o6) :: (L + 1 + 1 + 1 + 1 + 1, o5) :: (L + 1 + 1 + 1 + 1, o4) :: (L + 1 + 1 + 1, o3) :: (L + 1 + 1, o2) :: (L + 1, o1) :: (652, tabObj #[]) :: (vl, listOf yv.toArray n4) :: (al, listOf ya.toArray n3) :: (cl, listOf (cs.map Value.ref).toArray n1) :: (tyl, listOf (ts.map Value.ref).toArray n2) :: wl) rfl (N' _ (.head _)).1 (range_ok many (by omega)).1 (range_ok many (by omega)).2 F' (fun q hq => N' q (.tail _ hq)) ?_ ?_ ?_
  · exact ⟨[], [], 0, .nil, .nil, fun _ h => (nomatch h), Nat.le_refl _, rfl⟩
  · rintro i tv u' nx h tk own hin ho ⟨yv, l, n4, hyl, hnd, hlt, hll, rfl⟩ F₁ N₁ hos
    clear F' N'
    repeat ((fail_if_success (with_reducible show wpAny _ _ (call (Value.builtin _) _) _ _ _)); (first | (k_unfold; (try dsimp only)) | walk1 | (dsimp only; walk1)))
    k_dflt (refine len_at chs.length (News.isList (by k_asm) (by k_mem)) (by simp [hcs]) (by omega) ?_)
    obtain ⟨pk, hpk, ep⟩ := fmod_idx (a := atOr ns (9 + (0 + (i : Int))).toNat (0 + (i : Int) + 1)) (n := chs.length) W.hgd.pos
    repeat ((fail_if_success (with_reducible show wpAny _ _ (storeName _ _ _) _ _ _)); (first | (k_unfold; (try dsimp only)) | walk1 | (dsimp only; walk1)))
    rw [← ep]
    repeat ((fail_if_success (with_reducible show wpAny _ _ (TbEnd _ _ _ _ _ _) _ _ _)); (first | (k_unfold; (try dsimp only)) | walk1 | (dsimp only; walk1)))
    · refine tbEnd_of (by assumption) (by assumption) _ (fun p hp => List.mem_append_left _ hp) (fun p hp => List.mem_append_right _ hp) ho ⟨⟨yv, l, n4, hyl, hnd, hlt, by omega, rfl⟩, fun y q1 q2 => ?_⟩
      show (if y = _ then _ else if y = _ then _ else if y = _ then _ else _) = _
      rw [if_neg q2, if_neg q1, if_neg q2]
    · have hpl : pk ∉ l := by
        first | simpa using (by assumption : (!l.contains pk) = true) | simpa using (by assumption : l.contains pk = false)
      have hlen5 : l.length ≤ i := hll
      have hown : ∀ p ∈ own, p.1 ≠ vl := fun p hp => ho p hp (vl, listOf yv.toArray n4) (by simp)
      repeat ((fail_if_success (with_reducible show wpAny _ _ (call _ _) _ _ _)); (first | (k_unfold; (try dsimp only)) | walk1 | (dsimp only; walk1)))
      rename Fr _ _ _ _ => F₃
      rename News _ _ _ _ => N₃
      k_dflt (refine append_K F₃ (news_out (C10 := (L + 1 + 1 + 1 + 1 + 1 + 1 + 1 + 1 + 1, o9) :: (L + 1 + 1 + 1 + 1 + 1 + 1 + 1 + 1, o8) :: (L + 1 + 1 + 1 + 1 + 1 + 1 + 1, o7) :: (L + 1 + 1 + 1 + 1 + 1 + 1, o6) :: (L + 1 + 1 + 1 + 1 + 1, o5) :: (L + 1 + 1 + 1 + 1, o4) :: (L + 1 + 1 + 1, o3) :: (L + 1 + 1, o2) :: (L + 1, o1) :: (652, tabObj #[]) :: []) (D := (vl, listOf yv.toArray n4)) (r := (al, listOf ya.toArray n3) :: (cl, listOf (cs.map Value.ref).toArray n1) :: (tyl, listOf (ts.map Value.ref).toArray n2) :: wl) (own := own) N₃) (Upd.head (off_out l1 rfl l2 hown)) ?_ (by rw [List.size_toArray, nats_len hyl]; unfold sizeLine; omega))
      intro h' F' N'
      have N₄ := news_back (C10 := (L + 1 + 1 + 1 + 1 + 1 + 1 + 1 + 1 + 1, o9) :: (L + 1 + 1 + 1 + 1 + 1 + 1 + 1 + 1, o8) :: (L + 1 + 1 + 1 + 1 + 1 + 1 + 1, o7) :: (L + 1 + 1 + 1 + 1 + 1 + 1, o6) :: (L + 1 + 1 + 1 + 1 + 1, o5) :: (L + 1 + 1 + 1 + 1, o4) :: (L + 1 + 1 + 1, o3) :: (L + 1 + 1, o2) :: (L + 1, o1) :: (652, tabObj #[]) :: []) (D := (vl, listOf (yv ++ [Value.int (pk : Int) _]).toArray (n4 + 1))) (r := (al, listOf ya.toArray n3) :: (cl, listOf (cs.map Value.ref).toArray n1) :: (tyl, listOf (ts.map Value.ref).toArray n2) :: wl) (own := own) (by rw [← List.push_toArray]; exact N')
      clear F₃ N₃ N'
      repeat ((fail_if_success (with_reducible show wpAny _ _ (TbEnd _ _ _ _ _ _) _ _ _)); (first | (k_unfold; (try dsimp only)) | walk1 | (dsimp only; walk1)))
      rename Fr _ _ _ _ => F₅
      rename News _ _ _ _ => N₅
      refine tbEnd_of F₅ N₅ _ (fun p hp => List.mem_append_left _ hp) (fun p hp => List.mem_append_right _ hp) (tboff_same (by rfl) ho) ⟨⟨_, l ++ [pk], n4 + 1, nats_push hyl, List.nodup_append.mpr ⟨hnd, by simp, fun a ha b hb e => hpl (by rw [← List.mem_singleton.mp hb, ← e]; exact ha)⟩, ?_, by rw [List.length_append]; exact Nat.succ_le_succ hll, rfl⟩, fun y q1 q2 => ?_⟩
      · intro k hk
        rcases List.mem_append.mp hk with hk | hk
        · exact hlt k hk
        · rw [List.mem_singleton.mp hk]; exact hpk
      · show (if y = _ then _ else if y = _ then _ else if y = _ then _ else _) = _
        rw [if_neg q2, if_neg q1, if_neg q2]
  · rintro u₁ u₂ nx h tk ⟨yv, l, n4, hyl, hnd, hlt, hll, rfl⟩ F₁ N₁
    clear F' N'
    repeat ((fail_if_success (with_reducible show wpAny _ _ (execs _ _) _ _ _)); (first | (k_unfold; (try dsimp only)) | walk1 | (dsimp only; walk1)))
    refine next _ _ yv l n4 _ hyl hnd hlt (by omega) (fr_norm2 (by decide) (by decide) F₁) N₁
end Mine

namespace Mine
set_option maxRecDepth 100000
set_option maxHeartbeats 8000000
variable {w : World} {p : Program} {loose : List Str} {mean : ExcName → Option Value} {mg mb : Str → Option Value} {qual : Str} {body : List Stmt} {scope : Scope} {g base : Heap} {L sc fa : Addr} {vs : List Value} {ns : List Int}
theorem st6 (c : LawCtx w p loose mean mg mb qual body scope g base L sc vs ns) {s : Shared} {Q : Flow → Shared → Prop} {E : Value → Shared → Prop} {o1 o2 o3 o4 o5 o6 o7 o8 o9 : Obj} {u : Str → Option Value} {chs : List (List Nat)} {cs ts : List Addr} {cl tyl : Addr} {n1 n2 : Nat} {wl : List (Addr × Obj)} (W : LawW chs cs ts cl tyl n1 n2 wl L) {al vl : Addr} {ya yv : List Value} {n3 n4 : Nat} (d1 : cdat o1 (some (.ref cl)))
    (F : Fr g L s.heap (fun y => if y = Str.ofString "script" then some (.ref sc) else u y)) (N : News g L s.heap ((L + 1 + 1 + 1 + 1 + 1 + 1 + 1 + 1 + 1, o9) :: (L + 1 + 1 + 1 + 1 + 1 + 1 + 1 + 1, o8) :: (L + 1 + 1 + 1 + 1 + 1 + 1 + 1, o7) :: (L + 1 + 1 + 1 + 1 + 1 + 1, o6) :: (L + 1 + 1 + 1 + 1 + 1, o5) :: (L + 1 + 1 + 1 + 1, o4) :: (L + 1 + 1 + 1, o3) :: (L + 1 + 1, o2) :: (L + 1, o1) :: (652, tabObj #[]) :: (vl, listOf yv.toArray n4) :: (al, listOf ya.toArray n3) :: (cl, listOf (cs.map Value.ref).toArray n1) :: (tyl, listOf (ts.map Value.ref).toArray n2) :: wl))
    (next : ∀ h' tk bd tb (u : Str → Option Value), bd < chs.length → Fr g L h' (fun y => if y = Str.ofString "bound" then some (.int (bd : Nat) tb) else u y) → News g L h' ((L + 1 + 1 + 1 + 1 + 1 + 1 + 1 + 1 + 1, o9) :: (L + 1 + 1 + 1 + 1 + 1 + 1 + 1 + 1, o8) :: (L + 1 + 1 + 1 + 1 + 1 + 1 + 1, o7) :: (L + 1 + 1 + 1 + 1 + 1 + 1, o6) :: (L + 1 + 1 + 1 + 1 + 1, o5) :: (L + 1 + 1 + 1 + 1, o4) :: (L + 1 + 1 + 1, o3) :: (L + 1 + 1, o2) :: (L + 1, o1) :: (652, tabObj #[]) :: (vl, listOf yv.toArray n4) :: (al, listOf ya.toArray n3) :: (cl, listOf (cs.map Value.ref).toArray n1) :: (tyl, listOf (ts.map Value.ref).toArray n2) :: wl) → wpAny (model PG w) (callerA.deeper (lawEnv qual scope L fa)) (execs (body.drop 7) (lawEnv qual scope L fa)) Q E { s with heap := h', toks := tk }) :
    wpAny (model PG w) (callerA.deeper (lawEnv qual scope L fa)) (execs (body.drop 6) (lawEnv qual scope L fa)) Q E s := by
  obtain ⟨hf, K, X, TP, hl, hI, hlen, hC⟩ := c
  obtain ⟨name, params, dV, kV, doc, pm, an, cdv, ct, oc, od, osl, hf⟩ := hf
  have hf2 : (hd.heap_39 w.params).lookup 655 = some ⟨_, _, .func (fnOf _ _ _ _ _ _ _ _ _ _ _ _), _⟩ := rfl
  rw [hf2] at hf
  cases hf
  clear hf2
  dsimp only [List.drop, ifBody]
  have hcs := W.hcs
  have hts := W.hts
  have hlc := W.hlc
  have h652 := W.h652
  have hpos := W.hgd.pos
  repeat ((fail_if_success (with_reducible show wpAny _ _ (call (Value.builtin _) _) _ _ _)); (first | (k_unfold; (try dsimp only)) | walk1 | (dsimp only; walk1)))
  k_dflt (refine len_at chs.length (News.isList (by k_asm) (by k_mem)) (by simp [hcs]) (by omega) ?_)
  obtain ⟨bd, hbd, e⟩ := fmod_idx (a := atOr ns (Int.toNat 13) 0) (n := chs.length) W.hgd.pos
  repeat ((fail_if_success (with_reducible show wpAny _ _ (storeName _ _ _) _ _ _)); (first | (k_unfold; (try dsimp only)) | walk1 | (dsimp only; walk1)))
  rw [← e]
  repeat ((fail_if_success (with_reducible show wpAny _ _ (execs _ _) _ _ _)); (first | (k_unfold; (try dsimp only)) | walk1 | (dsimp only; walk1)))
  exact next _ _ bd _ _ hbd (by assumption) (by assumption)
theorem st7 (c : LawCtx w p loose mean mg mb qual body scope g base L sc vs ns) {s : Shared} {Q : Flow → Shared → Prop} {E : Value → Shared → Prop} {o1 o2 o3 o4 o5 o6 o7 o8 o9 : Obj} {u : Str → Option Value} {chs : List (List Nat)} {cs ts : List Addr} {cl tyl : Addr} {n1 n2 : Nat} {wl : List (Addr × Obj)} (W : LawW chs cs ts cl tyl n1 n2 wl L) {al vl : Addr} {ya yv : List Value} {n3 n4 bd : Nat} {tb : Tok} {l : List Nat} (hbd : bd < chs.length) (hyl : NatsAre yv l) (hlt : ∀ k ∈ l, k < chs.length) (hll : l.length ≤ 4) (d3 : cdat o3 (some (.ref tyl))) (d5 : cdat o5 (some (.ref vl)))
    (F : Fr g L s.heap (fun y => if y = Str.ofString "bound" then some (.int (bd : Nat) tb) else u y)) (N : News g L s.heap ((L + 1 + 1 + 1 + 1 + 1 + 1 + 1 + 1 + 1, o9) :: (L + 1 + 1 + 1 + 1 + 1 + 1 + 1 + 1, o8) :: (L + 1 + 1 + 1 + 1 + 1 + 1 + 1, o7) :: (L + 1 + 1 + 1 + 1 + 1 + 1, o6) :: (L + 1 + 1 + 1 + 1 + 1, o5) :: (L + 1 + 1 + 1 + 1, o4) :: (L + 1 + 1 + 1, o3) :: (L + 1 + 1, o2) :: (L + 1, o1) :: (652, tabObj #[]) :: (vl, listOf yv.toArray n4) :: (al, listOf ya.toArray n3) :: (cl, listOf (cs.map Value.ref).toArray n1) :: (tyl, listOf (ts.map Value.ref).toArray n2) :: wl))
    (next : ∀ h' tk ow wl, LawW chs cs ts cl tyl n1 n2 wl L → (∀ At : Addr → Obj → Prop, (∀ q ∈ wl, At q.1 q.2) → TvAt At ow (Str.ofString "T") (tyL ts l) (ts.getD (if l.isEmpty then bd else 0) 0)) → Fr g L h' (fun y => if y = Str.ofString "own" then some (.ref ow) else if y = Str.ofString "bound" then some (.int (bd : Nat) tb) else u y) → News g L h' ((L + 1 + 1 + 1 + 1 + 1 + 1 + 1 + 1 + 1, o9) :: (L + 1 + 1 + 1 + 1 + 1 + 1 + 1 + 1, o8) :: (L + 1 + 1 + 1 + 1 + 1 + 1 + 1, o7) :: (L + 1 + 1 + 1 + 1 + 1 + 1, o6) :: (L + 1 + 1 + 1 + 1 + 1, o5) :: (L + 1 + 1 + 1 + 1, o4) :: (L + 1 + 1 + 1, o3) :: (L + 1 + 1, o2) :: (L + 1, o1) :: (652, tabObj #[]) :: (vl, listOf yv.toArray n4) :: (al, listOf ya.toArray n3) :: (cl, listOf (cs.map Value.ref).toArray n1) :: (tyl, listOf (ts.map Value.ref).toArray n2) :: wl) → wpAny (model PG w) (callerA.deeper (lawEnv qual scope L fa)) (execs (body.drop 8) (lawEnv qual scope L fa)) Q E { s with heap := h', toks := tk }) :
    wpAny (model PG w) (callerA.deeper (lawEnv qual scope L fa)) (execs (body.drop 7) (lawEnv qual scope L fa)) Q E s := by
  obtain ⟨hf, K, X, TP, hl, hI, hlen, hC⟩ := c
  obtain ⟨name, params, dV, kV, doc, pm, an, cdv, ct, oc, od, osl, hf⟩ := hf
  have hf2 : (hd.heap_39 w.params).lookup 655 = some ⟨_, _, .func (fnOf _ _ _ _ _ _ _ _ _ _ _ _), _⟩ := rfl
  rw [hf2] at hf
  cases hf
  clear hf2
  dsimp only [List.drop, ifBody]
  have hcs := W.hcs
  have hts := W.hts
  have hlc := W.hlc
  have h652 := W.h652
  have hpos := W.hgd.pos
  repeat ((fail_if_success (with_reducible show wpAny _ _ (call (Value.ref 161) _ _) _ _ _)); (first | (k_unfold; (try dsimp only)) | walk1 | (dsimp only; walk1)))
  rename News _ _ _ _ => Nx
  k_dflt (refine' Mine.Makes.use Mine.new_id_does ?k1 ?k2 ?k3 ?k4 ?k5 ?k6 ?k7 ?k8 ?k9 ?_)
  case k1 => k_asm
  case k2 => k_asm
  case k3 => k_asm
  case k4 => k_asm
  case k5 => k_asm
  case k6 => exact rfl
  case k7 => exact fun _ _ => trivial
  case k8 => k_room
  case k9 => k_units
  intro _ tl1 h' tk' F' N' G' S' hR'
  obtain ⟨xi, rfl, hxi⟩ := hR'
  have W1 := W.more (tl := tl1) (off_adr (l := (L + 1 + 1 + 1 + 1 + 1 + 1 + 1 + 1 + 1, o9) :: (L + 1 + 1 + 1 + 1 + 1 + 1 + 1 + 1, o8) :: (L + 1 + 1 + 1 + 1 + 1 + 1 + 1, o7) :: (L + 1 + 1 + 1 + 1 + 1 + 1, o6) :: (L + 1 + 1 + 1 + 1 + 1, o5) :: (L + 1 + 1 + 1 + 1, o4) :: (L + 1 + 1 + 1, o3) :: (L + 1 + 1, o2) :: (L + 1, o1) :: (652, tabObj #[]) :: []) (as := [L + 1 + 1 + 1 + 1 + 1 + 1 + 1 + 1 + 1, L + 1 + 1 + 1 + 1 + 1 + 1 + 1 + 1, L + 1 + 1 + 1 + 1 + 1 + 1 + 1, L + 1 + 1 + 1 + 1 + 1 + 1, L + 1 + 1 + 1 + 1 + 1, L + 1 + 1 + 1 + 1, L + 1 + 1 + 1, L + 1 + 1, L + 1, 652]) (fun z hz => off_of_fresh Nx S' (p := z) (List.mem_append_left ((vl, listOf yv.toArray n4) :: (al, listOf ya.toArray n3) :: (cl, listOf (cs.map Value.ref).toArray n1) :: (tyl, listOf (ts.map Value.ref).toArray n2) :: wl) hz)) rfl)
  have N₁ : News g L h' ((L + 1 + 1 + 1 + 1 + 1 + 1 + 1 + 1 + 1, o9) :: (L + 1 + 1 + 1 + 1 + 1 + 1 + 1 + 1, o8) :: (L + 1 + 1 + 1 + 1 + 1 + 1 + 1, o7) :: (L + 1 + 1 + 1 + 1 + 1 + 1, o6) :: (L + 1 + 1 + 1 + 1 + 1, o5) :: (L + 1 + 1 + 1 + 1, o4) :: (L + 1 + 1 + 1, o3) :: (L + 1 + 1, o2) :: (L + 1, o1) :: (652, tabObj #[]) :: (vl, listOf yv.toArray n4) :: (al, listOf ya.toArray n3) :: (cl, listOf (cs.map Value.ref).toArray n1) :: (tyl, listOf (ts.map Value.ref).toArray n2) :: (tl1 ++ wl)) := news_tail (P := (L + 1 + 1 + 1 + 1 + 1 + 1 + 1 + 1 + 1, o9) :: (L + 1 + 1 + 1 + 1 + 1 + 1 + 1 + 1, o8) :: (L + 1 + 1 + 1 + 1 + 1 + 1 + 1, o7) :: (L + 1 + 1 + 1 + 1 + 1 + 1, o6) :: (L + 1 + 1 + 1 + 1 + 1, o5) :: (L + 1 + 1 + 1 + 1, o4) :: (L + 1 + 1 + 1, o3) :: (L + 1 + 1, o2) :: (L + 1, o1) :: (652, tabObj #[]) :: (vl, listOf yv.toArray n4) :: (al, listOf ya.toArray n3) :: (cl, listOf (cs.map Value.ref).toArray n1) :: (tyl, listOf (ts.map Value.ref).toArray n2) :: []) N'
  clear N' Nx
  replace hxi : ∀ At : Addr → Obj → Prop, (∀ q ∈ tl1 ++ wl, At q.1 q.2) → IdAt At xi 1 := fun At hAt => hxi At fun q hq => hAt q (List.mem_append_left _ hq)
  clear S' W
  generalize tl1 ++ wl = wl1 at N₁ W1 hxi
  repeat ((fail_if_success (with_reducible show wpAny _ _ (eval (PySem.Expr.ListComp _ _ _ _) _) _ _ _)); (first | (k_unfold; (try dsimp only)) | walk1 | (dsimp only; walk1)))
  rename Fr _ _ _ _ => F₀
  rename News _ _ _ _ => N₀
  k_dflt (refine comp_U0 (fun i => Value.ref (ts.getD (l.getD i 0) 0)) F₀ N₀ (by with_unfolding_all rfl) (by decide) rfl (by decide) (by rfl) ?_)
  repeat ((first | (with_reducible show wpAny _ _ _ _ _ _) | (with_reducible show PySem.W.Frag.In _ _ ∧ _)); (first | (k_unfold; (try dsimp only)) | walk1 | (dsimp only; walk1)))
  refine ⟨rfl, F₀, N₀, _, _, .led (by k_mem), by rw [List.size_toArray, nats_len hyl]; unfold sizeLine; omega, ?_, ?_⟩
  · intro i v I oI C oC D m₂ ys h tk E' hi hv hC hm F₂ N₂
    obtain ⟨k, t, hk, rfl⟩ := nats_at hyl (by simpa using hv)
    have hkl := hlt k (List.mem_of_getElem? hk)
    have hgk : l.getD i 0 = k := by rw [List.getD_eq_getElem?_getD, hk]; rfl
    clear F₀ N₀
    k_steps
    exact Pure1.intro (by rw [hgk]) (by assumption) (by assumption)
  · intro D h tk F₂ N₂ off
    clear F₀ N₀
    rw [show yv.toArray.size = l.length by rw [List.size_toArray, nats_len hyl], map_getD l (fun k => Value.ref (ts.getD k 0)) 0] at N₂
    have hD := off1_mem off
    have hal := adr_of (C10 := (L + 1 + 1 + 1 + 1 + 1 + 1 + 1 + 1 + 1, o9) :: (L + 1 + 1 + 1 + 1 + 1 + 1 + 1 + 1, o8) :: (L + 1 + 1 + 1 + 1 + 1 + 1 + 1, o7) :: (L + 1 + 1 + 1 + 1 + 1 + 1, o6) :: (L + 1 + 1 + 1 + 1 + 1, o5) :: (L + 1 + 1 + 1 + 1, o4) :: (L + 1 + 1 + 1, o3) :: (L + 1 + 1, o2) :: (L + 1, o1) :: (652, tabObj #[]) :: []) (as := [L + 1 + 1 + 1 + 1 + 1 + 1 + 1 + 1 + 1, L + 1 + 1 + 1 + 1 + 1 + 1 + 1 + 1, L + 1 + 1 + 1 + 1 + 1 + 1 + 1, L + 1 + 1 + 1 + 1 + 1 + 1, L + 1 + 1 + 1 + 1 + 1, L + 1 + 1 + 1 + 1, L + 1 + 1 + 1, L + 1 + 1, L + 1, 652]) hD rfl
    have W2 := W1.more (tl := [(D, LCg.lst (l.map fun k => Value.ref (ts.getD k 0)))]) (fun a ha q hq => by rw [List.mem_singleton.mp hq]; exact hal a ha)
    have N₃ : News g L h ((L + 1 + 1 + 1 + 1 + 1 + 1 + 1 + 1 + 1, o9) :: (L + 1 + 1 + 1 + 1 + 1 + 1 + 1 + 1, o8) :: (L + 1 + 1 + 1 + 1 + 1 + 1 + 1, o7) :: (L + 1 + 1 + 1 + 1 + 1 + 1, o6) :: (L + 1 + 1 + 1 + 1 + 1, o5) :: (L + 1 + 1 + 1 + 1, o4) :: (L + 1 + 1 + 1, o3) :: (L + 1 + 1, o2) :: (L + 1, o1) :: (652, tabObj #[]) :: (vl, listOf yv.toArray n4) :: (al, listOf ya.toArray n3) :: (cl, listOf (cs.map Value.ref).toArray n1) :: (tyl, listOf (ts.map Value.ref).toArray n2) :: (D, LCg.lst (l.map fun k => Value.ref (ts.getD k 0))) :: wl1) := news_tail (tl := [(D, LCg.lst (l.map fun k => Value.ref (ts.getD k 0)))]) (P := (L + 1 + 1 + 1 + 1 + 1 + 1 + 1 + 1 + 1, o9) :: (L + 1 + 1 + 1 + 1 + 1 + 1 + 1 + 1, o8) :: (L + 1 + 1 + 1 + 1 + 1 + 1 + 1, o7) :: (L + 1 + 1 + 1 + 1 + 1 + 1, o6) :: (L + 1 + 1 + 1 + 1 + 1, o5) :: (L + 1 + 1 + 1 + 1, o4) :: (L + 1 + 1 + 1, o3) :: (L + 1 + 1, o2) :: (L + 1, o1) :: (652, tabObj #[]) :: (vl, listOf yv.toArray n4) :: (al, listOf ya.toArray n3) :: (cl, listOf (cs.map Value.ref).toArray n1) :: (tyl, listOf (ts.map Value.ref).toArray n2) :: []) N₂
    clear N₂ off hD W1
    have hDl : ∀ At : Addr → Obj → Prop, (∀ q ∈ (D, LCg.lst (l.map fun k => Value.ref (ts.getD k 0))) :: wl1, At q.1 q.2) → IdAt At xi 1 ∧ ∃ n, At D (listOf ((tyL ts l).map Value.ref).toArray n) := fun At hAt => ⟨hxi At fun q hq => hAt q (.tail _ hq), _, by rw [List.map_map]; exact hAt _ (.head _)⟩
    replace W2 : LawW chs cs ts cl tyl n1 n2 ((D, LCg.lst (l.map fun k => Value.ref (ts.getD k 0))) :: wl1) L := W2
    generalize (D, LCg.lst (l.map fun k => Value.ref (ts.getD k 0))) :: wl1 = wl2 at N₃ W2 hDl
    repeat ((fail_if_success (with_reducible show wpAny _ _ (call (Value.ref 204) _ _) _ _ _)); (first | (k_unfold; (try dsimp only)) | walk1 | (dsimp only; walk1)))
    · have he := nats_empty hyl
      rename News _ _ _ _ => Nx
      (k_dflt (refine' Mine.Makes.use Mine.new_tv_does ?k1 ?k2 ?k3 ?k4 ?k5 ?k6 ?k7 ?k8 ?k9 ?_); (case k1 => k_asm); (case k2 => k_asm); (case k3 => k_asm); (case k4 => k_asm); (case k5 => k_asm); (case k6 => exact rfl); (case k7 => exact fun _ _ => trivial); (case k8 => k_room); (case k9 => k_units))
      intro _ tl2 h' tk' F' N' G' S' hR'
      obtain ⟨ow, rfl, hx⟩ := hR'
      have W3 := W2.more (tl := tl2) (off_adr (l := (L + 1 + 1 + 1 + 1 + 1 + 1 + 1 + 1 + 1, o9) :: (L + 1 + 1 + 1 + 1 + 1 + 1 + 1 + 1, o8) :: (L + 1 + 1 + 1 + 1 + 1 + 1 + 1, o7) :: (L + 1 + 1 + 1 + 1 + 1 + 1, o6) :: (L + 1 + 1 + 1 + 1 + 1, o5) :: (L + 1 + 1 + 1 + 1, o4) :: (L + 1 + 1 + 1, o3) :: (L + 1 + 1, o2) :: (L + 1, o1) :: (652, tabObj #[]) :: []) (as := [L + 1 + 1 + 1 + 1 + 1 + 1 + 1 + 1 + 1, L + 1 + 1 + 1 + 1 + 1 + 1 + 1 + 1, L + 1 + 1 + 1 + 1 + 1 + 1 + 1, L + 1 + 1 + 1 + 1 + 1 + 1, L + 1 + 1 + 1 + 1 + 1, L + 1 + 1 + 1 + 1, L + 1 + 1 + 1, L + 1 + 1, L + 1, 652]) (fun z hz => off_of_fresh Nx S' (p := z) (.tail _ (List.mem_append_left ((vl, listOf yv.toArray n4) :: (al, listOf ya.toArray n3) :: (cl, listOf (cs.map Value.ref).toArray n1) :: (tyl, listOf (ts.map Value.ref).toArray n2) :: wl2) hz))) rfl)
      have N₄ : News g L h' ((L + 1 + 1 + 1 + 1 + 1 + 1 + 1 + 1 + 1, o9) :: (L + 1 + 1 + 1 + 1 + 1 + 1 + 1 + 1, o8) :: (L + 1 + 1 + 1 + 1 + 1 + 1 + 1, o7) :: (L + 1 + 1 + 1 + 1 + 1 + 1, o6) :: (L + 1 + 1 + 1 + 1 + 1, o5) :: (L + 1 + 1 + 1 + 1, o4) :: (L + 1 + 1 + 1, o3) :: (L + 1 + 1, o2) :: (L + 1, o1) :: (652, tabObj #[]) :: (vl, listOf yv.toArray n4) :: (al, listOf ya.toArray n3) :: (cl, listOf (cs.map Value.ref).toArray n1) :: (tyl, listOf (ts.map Value.ref).toArray n2) :: (tl2 ++ wl2)) := news_tail (P := (L + 1 + 1 + 1 + 1 + 1 + 1 + 1 + 1 + 1, o9) :: (L + 1 + 1 + 1 + 1 + 1 + 1 + 1 + 1, o8) :: (L + 1 + 1 + 1 + 1 + 1 + 1 + 1, o7) :: (L + 1 + 1 + 1 + 1 + 1 + 1, o6) :: (L + 1 + 1 + 1 + 1 + 1, o5) :: (L + 1 + 1 + 1 + 1, o4) :: (L + 1 + 1 + 1, o3) :: (L + 1 + 1, o2) :: (L + 1, o1) :: (652, tabObj #[]) :: (vl, listOf yv.toArray n4) :: (al, listOf ya.toArray n3) :: (cl, listOf (cs.map Value.ref).toArray n1) :: (tyl, listOf (ts.map Value.ref).toArray n2) :: []) (news_dropm N')
      clear N' Nx
      repeat ((fail_if_success (with_reducible show wpAny _ _ (execs _ _) _ _ _)); (first | (k_unfold; (try dsimp only)) | walk1 | (dsimp only; walk1)))
      refine next _ _ ow (tl2 ++ wl2) W3 ?_ (by assumption) (by assumption)
      intro At hAt
      obtain ⟨g1, n, g2⟩ := hDl At fun q hq => hAt q (List.mem_append_right _ hq)
      have g3 := hx At 1 (tyL ts l) n (fun q hq => hAt q (List.mem_append_left _ hq)) g1 g2
      have he' : l.isEmpty = true := by
        have h9 : l = [] := by simpa using (by assumption : decide (l.map (fun k => ((k : Nat) : Int)) = []) = true)
        rw [h9]; rfl
      rw [he', if_pos rfl]
      exact g3
    · repeat ((fail_if_success (with_reducible show wpAny _ _ (call (Value.ref 204) _ _) _ _ _)); (first | (k_unfold; (try dsimp only)) | walk1 | (dsimp only; walk1)))
      have he := nats_empty hyl
      rename News _ _ _ _ => Nx
      (k_dflt (refine' Mine.Makes.use Mine.new_tv_does ?k1 ?k2 ?k3 ?k4 ?k5 ?k6 ?k7 ?k8 ?k9 ?_); (case k1 => k_asm); (case k2 => k_asm); (case k3 => k_asm); (case k4 => k_asm); (case k5 => k_asm); (case k6 => exact rfl); (case k7 => exact fun _ _ => trivial); (case k8 => k_room); (case k9 => k_units))
      intro _ tl2 h' tk' F' N' G' S' hR'
      obtain ⟨ow, rfl, hx⟩ := hR'
      have W3 := W2.more (tl := tl2) (off_adr (l := (L + 1 + 1 + 1 + 1 + 1 + 1 + 1 + 1 + 1, o9) :: (L + 1 + 1 + 1 + 1 + 1 + 1 + 1 + 1, o8) :: (L + 1 + 1 + 1 + 1 + 1 + 1 + 1, o7) :: (L + 1 + 1 + 1 + 1 + 1 + 1, o6) :: (L + 1 + 1 + 1 + 1 + 1, o5) :: (L + 1 + 1 + 1 + 1, o4) :: (L + 1 + 1 + 1, o3) :: (L + 1 + 1, o2) :: (L + 1, o1) :: (652, tabObj #[]) :: []) (as := [L + 1 + 1 + 1 + 1 + 1 + 1 + 1 + 1 + 1, L + 1 + 1 + 1 + 1 + 1 + 1 + 1 + 1, L + 1 + 1 + 1 + 1 + 1 + 1 + 1, L + 1 + 1 + 1 + 1 + 1 + 1, L + 1 + 1 + 1 + 1 + 1, L + 1 + 1 + 1 + 1, L + 1 + 1 + 1, L + 1 + 1, L + 1, 652]) (fun z hz => off_of_fresh Nx S' (p := z) (.tail _ (List.mem_append_left ((vl, listOf yv.toArray n4) :: (al, listOf ya.toArray n3) :: (cl, listOf (cs.map Value.ref).toArray n1) :: (tyl, listOf (ts.map Value.ref).toArray n2) :: wl2) hz))) rfl)
      have N₄ : News g L h' ((L + 1 + 1 + 1 + 1 + 1 + 1 + 1 + 1 + 1, o9) :: (L + 1 + 1 + 1 + 1 + 1 + 1 + 1 + 1, o8) :: (L + 1 + 1 + 1 + 1 + 1 + 1 + 1, o7) :: (L + 1 + 1 + 1 + 1 + 1 + 1, o6) :: (L + 1 + 1 + 1 + 1 + 1, o5) :: (L + 1 + 1 + 1 + 1, o4) :: (L + 1 + 1 + 1, o3) :: (L + 1 + 1, o2) :: (L + 1, o1) :: (652, tabObj #[]) :: (vl, listOf yv.toArray n4) :: (al, listOf ya.toArray n3) :: (cl, listOf (cs.map Value.ref).toArray n1) :: (tyl, listOf (ts.map Value.ref).toArray n2) :: (tl2 ++ wl2)) := news_tail (P := (L + 1 + 1 + 1 + 1 + 1 + 1 + 1 + 1 + 1, o9) :: (L + 1 + 1 + 1 + 1 + 1 + 1 + 1 + 1, o8) :: (L + 1 + 1 + 1 + 1 + 1 + 1 + 1, o7) :: (L + 1 + 1 + 1 + 1 + 1 + 1, o6) :: (L + 1 + 1 + 1 + 1 + 1, o5) :: (L + 1 + 1 + 1 + 1, o4) :: (L + 1 + 1 + 1, o3) :: (L + 1 + 1, o2) :: (L + 1, o1) :: (652, tabObj #[]) :: (vl, listOf yv.toArray n4) :: (al, listOf ya.toArray n3) :: (cl, listOf (cs.map Value.ref).toArray n1) :: (tyl, listOf (ts.map Value.ref).toArray n2) :: []) (news_dropm N')
      clear N' Nx
      repeat ((fail_if_success (with_reducible show wpAny _ _ (execs _ _) _ _ _)); (first | (k_unfold; (try dsimp only)) | walk1 | (dsimp only; walk1)))
      refine next _ _ ow (tl2 ++ wl2) W3 ?_ (by assumption) (by assumption)
      intro At hAt
      obtain ⟨g1, n, g2⟩ := hDl At fun q hq => hAt q (List.mem_append_right _ hq)
      have g3 := hx At 1 (tyL ts l) n (fun q hq => hAt q (List.mem_append_left _ hq)) g1 g2
      have he' : l.isEmpty = false := by
        have h9 : l ≠ [] := by simpa using (by assumption : decide (l.map (fun k => ((k : Nat) : Int)) = []) = false)
        cases l with
        | nil => exact absurd rfl h9
        | cons => rfl
      rw [he', if_neg Bool.false_ne_true]
      exact g3
end Mine

namespace Mine
set_option maxRecDepth 100000
set_option maxHeartbeats 8000000
variable {w : World} {p : Program} {loose : List Str} {mean : ExcName → Option Value} {mg mb : Str → Option Value} {qual : Str} {body : List Stmt} {scope : Scope} {g base : Heap} {L sc fa : Addr} {vs : List Value} {ns : List Int}
theorem st8 (c : LawCtx w p loose mean mg mb qual body scope g base L sc vs ns) {s : Shared} {Q : Flow → Shared → Prop} {E : Value → Shared → Prop} {o1 o2 o3 o4 o5 o6 o7 o8 o9 : Obj} {u : Str → Option Value} {chs : List (List Nat)} {cs ts : List Addr} {cl tyl : Addr} {n1 n2 : Nat} {wl : List (Addr × Obj)} (W : LawW chs cs ts cl tyl n1 n2 wl L) {al vl ow : Addr} {ya yv : List Value} {n3 n4 bd : Nat} {tb : Tok} {l la : List Nat} {v6 : Option Value} (hyl : NatsAre yv l) (hya : NatsAre ya la) (hll : l.length ≤ 4) (hal : ∀ a ∈ ([L + 1 + 1 + 1 + 1 + 1 + 1 + 1 + 1 + 1, L + 1 + 1 + 1 + 1 + 1 + 1 + 1 + 1, L + 1 + 1 + 1 + 1 + 1 + 1 + 1, L + 1 + 1 + 1 + 1 + 1 + 1, L + 1 + 1 + 1 + 1 + 1, L + 1 + 1 + 1 + 1, L + 1 + 1 + 1, L + 1 + 1, L + 1, 652] : List Addr), al ≠ a) (hvl : ∀ a ∈ ([L + 1 + 1 + 1 + 1 + 1 + 1 + 1 + 1 + 1, L + 1 + 1 + 1 + 1 + 1 + 1 + 1 + 1, L + 1 + 1 + 1 + 1 + 1 + 1 + 1, L + 1 + 1 + 1 + 1 + 1 + 1, L + 1 + 1 + 1 + 1 + 1, L + 1 + 1 + 1 + 1, L + 1 + 1 + 1, L + 1 + 1, L + 1, 652] : List Addr), @LT.lt Nat _ a vl) (d4 : cdat o4 (some (.ref al))) (d5 : cdat o5 (some (.ref vl))) (d6 : cdat o6 v6)
    (F : Fr g L s.heap (fun y => if y = Str.ofString "own" then some (.ref ow) else if y = Str.ofString "bound" then some (.int (bd : Nat) tb) else u y)) (N : News g L s.heap ((L + 1 + 1 + 1 + 1 + 1 + 1 + 1 + 1 + 1, o9) :: (L + 1 + 1 + 1 + 1 + 1 + 1 + 1 + 1, o8) :: (L + 1 + 1 + 1 + 1 + 1 + 1 + 1, o7) :: (L + 1 + 1 + 1 + 1 + 1 + 1, o6) :: (L + 1 + 1 + 1 + 1 + 1, o5) :: (L + 1 + 1 + 1 + 1, o4) :: (L + 1 + 1 + 1, o3) :: (L + 1 + 1, o2) :: (L + 1, o1) :: (652, tabObj #[]) :: (vl, listOf yv.toArray n4) :: (al, listOf ya.toArray n3) :: (cl, listOf (cs.map Value.ref).toArray n1) :: (tyl, listOf (ts.map Value.ref).toArray n2) :: wl))
    (next : ∀ h' tk o6 fl yf n5, NatsAre yf (l.filter fun k => la.contains k) → (∀ a ∈ ([L + 1 + 1 + 1 + 1 + 1 + 1 + 1 + 1 + 1, L + 1 + 1 + 1 + 1 + 1 + 1 + 1 + 1, L + 1 + 1 + 1 + 1 + 1 + 1 + 1, L + 1 + 1 + 1 + 1 + 1 + 1, L + 1 + 1 + 1 + 1 + 1, L + 1 + 1 + 1 + 1, L + 1 + 1 + 1, L + 1 + 1, L + 1, 652] : List Addr), fl ≠ a) → cdat o6 (some (.ref fl)) → Fr g L h' (fun y => if y = Str.ofString "own" then some (.ref ow) else if y = Str.ofString "bound" then some (.int (bd : Nat) tb) else u y) → News g L h' ((L + 1 + 1 + 1 + 1 + 1 + 1 + 1 + 1 + 1, o9) :: (L + 1 + 1 + 1 + 1 + 1 + 1 + 1 + 1, o8) :: (L + 1 + 1 + 1 + 1 + 1 + 1 + 1, o7) :: (L + 1 + 1 + 1 + 1 + 1 + 1, o6) :: (L + 1 + 1 + 1 + 1 + 1, o5) :: (L + 1 + 1 + 1 + 1, o4) :: (L + 1 + 1 + 1, o3) :: (L + 1 + 1, o2) :: (L + 1, o1) :: (652, tabObj #[]) :: (fl, listOf yf.toArray n5) :: (vl, listOf yv.toArray n4) :: (al, listOf ya.toArray n3) :: (cl, listOf (cs.map Value.ref).toArray n1) :: (tyl, listOf (ts.map Value.ref).toArray n2) :: wl) → wpAny (model PG w) (callerA.deeper (lawEnv qual scope L fa)) (execs (body.drop 9) (lawEnv qual scope L fa)) Q E { s with heap := h', toks := tk }) :
    wpAny (model PG w) (callerA.deeper (lawEnv qual scope L fa)) (execs (body.drop 8) (lawEnv qual scope L fa)) Q E s := by
  obtain ⟨hf, K, X, TP, hl, hI, hlen, hC⟩ := c
  obtain ⟨name, params, dV, kV, doc, pm, an, cdv, ct, oc, od, osl, hf⟩ := hf
  have hf2 : (hd.heap_39 w.params).lookup 655 = some ⟨_, _, .func (fnOf _ _ _ _ _ _ _ _ _ _ _ _), _⟩ := rfl
  rw [hf2] at hf
  cases hf
  clear hf2
  dsimp only [List.drop, ifBody]
  have hcs := W.hcs
  have hts := W.hts
  have hlc := W.hlc
  have h652 := W.h652
  have hpos := W.hgd.pos
  have z1 : @Ne Nat cl (L + 1 + 1 + 1 + 1 + 1 + 1) := W.hof (L + 1 + 1 + 1 + 1 + 1 + 1) (by simp) _ (.head _)
  have z2 : @Ne Nat tyl (L + 1 + 1 + 1 + 1 + 1 + 1) := W.hof (L + 1 + 1 + 1 + 1 + 1 + 1) (by simp) _ (.tail _ (.head _))
  have z3 : ∀ q ∈ wl, q.1 ≠ (L + 1 + 1 + 1 + 1 + 1 + 1) := fun q hq => W.hof (L + 1 + 1 + 1 + 1 + 1 + 1) (by simp) q (.tail _ (.tail _ hq))
  repeat ((fail_if_success (with_reducible show wpAny _ _ (eval (PySem.Expr.ListComp _ _ _ _) _) _ _ _)); (first | (k_unfold; (try dsimp only)) | walk1 | (dsimp only; walk1)))
  rename Fr _ _ _ _ => F₀
  rename News _ _ _ _ => N₀
  k_dflt (refine comp_I1 (fun i => la.contains (l.getD i 0)) (fun i => l.getD i 0) F₀ N₀ (by with_unfolding_all rfl) (by decide) rfl (by decide) (by rfl) ?_)
  repeat ((first | (with_reducible show wpAny _ _ _ _ _ _) | (with_reducible show PySem.W.Frag.In _ _ ∧ _)); (first | (k_unfold; (try dsimp only)) | walk1 | (dsimp only; walk1)))
  refine ⟨rfl, F₀, N₀, _, _, .led (by k_mem), by rw [List.size_toArray, nats_len hyl]; unfold sizeLine; omega, ?_, ?_⟩
  · intro i v I oI C oC D m₂ ys h tk E' hi hv hC hm F₂ N₂
    obtain ⟨k, t, hk, rfl⟩ := nats_at hyl (by simpa using hv)
    have hgk : l.getD i 0 = k := by rw [List.getD_eq_getElem?_getD, hk]; rfl
    clear F₀ N₀
    k_steps
    · rw [hgk]; assumption
    · rw [hgk]; exact PureI.intro (by assumption) (by assumption)
    · rw [hgk]; assumption
    · exact Pure1.intro rfl (by assumption) (by assumption)
  · rintro D ys h tk hys F₁ N₁ hD
    clear F₀ N₀
    rw [show yv.toArray.size = l.length by rw [List.size_toArray, nats_len hyl], filter_getD l (fun k => la.contains k) 0] at hys
    have hfl := adr_of (C10 := (L + 1 + 1 + 1 + 1 + 1 + 1 + 1 + 1 + 1, o9) :: (L + 1 + 1 + 1 + 1 + 1 + 1 + 1 + 1, o8) :: (L + 1 + 1 + 1 + 1 + 1 + 1 + 1, o7) :: (L + 1 + 1 + 1 + 1 + 1 + 1, o6) :: (L + 1 + 1 + 1 + 1 + 1, o5) :: (L + 1 + 1 + 1 + 1, o4) :: (L + 1 + 1 + 1, o3) :: (L + 1 + 1, o2) :: (L + 1, o1) :: (652, tabObj #[]) :: []) (as := [L + 1 + 1 + 1 + 1 + 1 + 1 + 1 + 1 + 1, L + 1 + 1 + 1 + 1 + 1 + 1 + 1 + 1, L + 1 + 1 + 1 + 1 + 1 + 1 + 1, L + 1 + 1 + 1 + 1 + 1 + 1, L + 1 + 1 + 1 + 1 + 1, L + 1 + 1 + 1 + 1, L + 1 + 1 + 1, L + 1 + 1, L + 1, 652]) hD rfl
    have N₂ : News g L h ((L + 1 + 1 + 1 + 1 + 1 + 1 + 1 + 1 + 1, o9) :: (L + 1 + 1 + 1 + 1 + 1 + 1 + 1 + 1, o8) :: (L + 1 + 1 + 1 + 1 + 1 + 1 + 1, o7) :: (L + 1 + 1 + 1 + 1 + 1 + 1, o6) :: (L + 1 + 1 + 1 + 1 + 1, o5) :: (L + 1 + 1 + 1 + 1, o4) :: (L + 1 + 1 + 1, o3) :: (L + 1 + 1, o2) :: (L + 1, o1) :: (652, tabObj #[]) :: (D, listOf ys.toArray _) :: (vl, listOf yv.toArray n4) :: (al, listOf ya.toArray n3) :: (cl, listOf (cs.map Value.ref).toArray n1) :: (tyl, listOf (ts.map Value.ref).toArray n2) :: wl) := news_in (C10 := (L + 1 + 1 + 1 + 1 + 1 + 1 + 1 + 1 + 1, o9) :: (L + 1 + 1 + 1 + 1 + 1 + 1 + 1 + 1, o8) :: (L + 1 + 1 + 1 + 1 + 1 + 1 + 1, o7) :: (L + 1 + 1 + 1 + 1 + 1 + 1, o6) :: (L + 1 + 1 + 1 + 1 + 1, o5) :: (L + 1 + 1 + 1 + 1, o4) :: (L + 1 + 1 + 1, o3) :: (L + 1 + 1, o2) :: (L + 1, o1) :: (652, tabObj #[]) :: []) N₁
    clear N₁
    have z4 : @Ne Nat al (L + 1 + 1 + 1 + 1 + 1 + 1) := hal _ (by simp)
    have z5 : @Ne Nat D (L + 1 + 1 + 1 + 1 + 1 + 1) := hfl _ (by simp)
    have z6 : @Ne Nat vl (L + 1 + 1 + 1 + 1 + 1 + 1) := Nat.ne_of_gt (hvl _ (by simp))
    repeat ((fail_if_success (with_reducible show wpAny _ _ (execs _ _) _ _ _)); (first | (k_unfold; (try dsimp only)) | walk1 | (dsimp only; walk1)))
    exact next _ _ _ D ys _ hys hfl (by assumption) (by assumption) (by assumption)
theorem st9 (c : LawCtx w p loose mean mg mb qual body scope g base L sc vs ns) {s : Shared} {Q : Flow → Shared → Prop} {E : Value → Shared → Prop} {o1 o2 o3 o4 o5 o6 o7 o8 o9 : Obj} {u : Str → Option Value} {chs : List (List Nat)} {cs ts : List Addr} {cl tyl : Addr} {n1 n2 : Nat} {wl : List (Addr × Obj)} (W : LawW chs cs ts cl tyl n1 n2 wl L) {al vl ow fl : Addr} {ya yv yf : List Value} {n3 n4 n5 bd : Nat} {tb : Tok} {v9 : Option Value} (hal : ∀ a ∈ ([L + 1 + 1 + 1 + 1 + 1 + 1 + 1 + 1 + 1, L + 1 + 1 + 1 + 1 + 1 + 1 + 1 + 1, L + 1 + 1 + 1 + 1 + 1 + 1 + 1, L + 1 + 1 + 1 + 1 + 1 + 1, L + 1 + 1 + 1 + 1 + 1, L + 1 + 1 + 1 + 1, L + 1 + 1 + 1, L + 1 + 1, L + 1, 652] : List Addr), al ≠ a) (hfl : ∀ a ∈ ([L + 1 + 1 + 1 + 1 + 1 + 1 + 1 + 1 + 1, L + 1 + 1 + 1 + 1 + 1 + 1 + 1 + 1, L + 1 + 1 + 1 + 1 + 1 + 1 + 1, L + 1 + 1 + 1 + 1 + 1 + 1, L + 1 + 1 + 1 + 1 + 1, L + 1 + 1 + 1 + 1, L + 1 + 1 + 1, L + 1 + 1, L + 1, 652] : List Addr), fl ≠ a) (hvl : ∀ a ∈ ([L + 1 + 1 + 1 + 1 + 1 + 1 + 1 + 1 + 1, L + 1 + 1 + 1 + 1 + 1 + 1 + 1 + 1, L + 1 + 1 + 1 + 1 + 1 + 1 + 1, L + 1 + 1 + 1 + 1 + 1 + 1, L + 1 + 1 + 1 + 1 + 1, L + 1 + 1 + 1 + 1, L + 1 + 1 + 1, L + 1 + 1, L + 1, 652] : List Addr), @LT.lt Nat _ a vl) (d9 : cdat o9 v9)
    (F : Fr g L s.heap (fun y => if y = Str.ofString "own" then some (.ref ow) else if y = Str.ofString "bound" then some (.int (bd : Nat) tb) else u y)) (N : News g L s.heap ((L + 1 + 1 + 1 + 1 + 1 + 1 + 1 + 1 + 1, o9) :: (L + 1 + 1 + 1 + 1 + 1 + 1 + 1 + 1, o8) :: (L + 1 + 1 + 1 + 1 + 1 + 1 + 1, o7) :: (L + 1 + 1 + 1 + 1 + 1 + 1, o6) :: (L + 1 + 1 + 1 + 1 + 1, o5) :: (L + 1 + 1 + 1 + 1, o4) :: (L + 1 + 1 + 1, o3) :: (L + 1 + 1, o2) :: (L + 1, o1) :: (652, tabObj #[]) :: (fl, listOf yf.toArray n5) :: (vl, listOf yv.toArray n4) :: (al, listOf ya.toArray n3) :: (cl, listOf (cs.map Value.ref).toArray n1) :: (tyl, listOf (ts.map Value.ref).toArray n2) :: wl))
    (next : ∀ h' tk o9 td, (∀ a ∈ ([L + 1 + 1 + 1 + 1 + 1 + 1 + 1 + 1 + 1, L + 1 + 1 + 1 + 1 + 1 + 1 + 1 + 1, L + 1 + 1 + 1 + 1 + 1 + 1 + 1, L + 1 + 1 + 1 + 1 + 1 + 1, L + 1 + 1 + 1 + 1 + 1, L + 1 + 1 + 1 + 1, L + 1 + 1 + 1, L + 1 + 1, L + 1, 652] : List Addr), @LT.lt Nat _ a td) → (∀ p ∈ (fl, listOf yf.toArray n5) :: (vl, listOf yv.toArray n4) :: (al, listOf ya.toArray n3) :: (cl, listOf (cs.map Value.ref).toArray n1) :: (tyl, listOf (ts.map Value.ref).toArray n2) :: wl, @LT.lt Nat _ p.1 td) → cdat o9 (some (.ref td)) → Fr g L h' (fun y => if y = Str.ofString "own" then some (.ref ow) else if y = Str.ofString "bound" then some (.int (bd : Nat) tb) else u y) → News g L h' ((L + 1 + 1 + 1 + 1 + 1 + 1 + 1 + 1 + 1, o9) :: (L + 1 + 1 + 1 + 1 + 1 + 1 + 1 + 1, o8) :: (L + 1 + 1 + 1 + 1 + 1 + 1 + 1, o7) :: (L + 1 + 1 + 1 + 1 + 1 + 1, o6) :: (L + 1 + 1 + 1 + 1 + 1, o5) :: (L + 1 + 1 + 1 + 1, o4) :: (L + 1 + 1 + 1, o3) :: (L + 1 + 1, o2) :: (L + 1, o1) :: (652, tabObj #[]) :: (td, listOf #[] 0) :: (fl, listOf yf.toArray n5) :: (vl, listOf yv.toArray n4) :: (al, listOf ya.toArray n3) :: (cl, listOf (cs.map Value.ref).toArray n1) :: (tyl, listOf (ts.map Value.ref).toArray n2) :: wl) → wpAny (model PG w) (callerA.deeper (lawEnv qual scope L fa)) (execs (body.drop 10) (lawEnv qual scope L fa)) Q E { s with heap := h', toks := tk }) :
    wpAny (model PG w) (callerA.deeper (lawEnv qual scope L fa)) (execs (body.drop 9) (lawEnv qual scope L fa)) Q E s := by
  obtain ⟨hf, K, X, TP, hl, hI, hlen, hC⟩ := c
  obtain ⟨name, params, dV, kV, doc, pm, an, cdv, ct, oc, od, osl, hf⟩ := hf
  have hf2 : (hd.heap_39 w.params).lookup 655 = some ⟨_, _, .func (fnOf _ _ _ _ _ _ _ _ _ _ _ _), _⟩ := rfl
  rw [hf2] at hf
  cases hf
  clear hf2
  dsimp only [List.drop, ifBody]
  have hcs := W.hcs
  have hts := W.hts
  have hlc := W.hlc
  have h652 := W.h652
  have hpos := W.hgd.pos
  have z1 : @Ne Nat cl (L + 1 + 1 + 1 + 1 + 1 + 1 + 1 + 1 + 1) := W.hof (L + 1 + 1 + 1 + 1 + 1 + 1 + 1 + 1 + 1) (by simp) _ (.head _)
  have z2 : @Ne Nat tyl (L + 1 + 1 + 1 + 1 + 1 + 1 + 1 + 1 + 1) := W.hof (L + 1 + 1 + 1 + 1 + 1 + 1 + 1 + 1 + 1) (by simp) _ (.tail _ (.head _))
  have z3 : ∀ q ∈ wl, q.1 ≠ (L + 1 + 1 + 1 + 1 + 1 + 1 + 1 + 1 + 1) := fun q hq => W.hof (L + 1 + 1 + 1 + 1 + 1 + 1 + 1 + 1 + 1) (by simp) q (.tail _ (.tail _ hq))
  have z4 : @Ne Nat al (L + 1 + 1 + 1 + 1 + 1 + 1 + 1 + 1 + 1) := hal _ (by simp)
  have z5 : @Ne Nat fl (L + 1 + 1 + 1 + 1 + 1 + 1 + 1 + 1 + 1) := hfl _ (by simp)
  have z6 : @Ne Nat vl (L + 1 + 1 + 1 + 1 + 1 + 1 + 1 + 1 + 1) := Nat.ne_of_gt (hvl _ (by simp))
  repeat ((fail_if_success (with_reducible show wpAny _ _ (newList _) _ _ _)); (first | (k_unfold; (try dsimp only)) | walk1 | (dsimp only; walk1)))
  rename Fr _ _ _ _ => F₀
  rename News _ _ _ _ => N₀
  k_dflt (refine newList_lt F₀ N₀ ?_ (Nat.le_of_ble_eq_true rfl))
  intro td h' F' N' l1 lx
  clear F₀ N₀
  have N₂ : News g L h' ((L + 1 + 1 + 1 + 1 + 1 + 1 + 1 + 1 + 1, o9) :: (L + 1 + 1 + 1 + 1 + 1 + 1 + 1 + 1, o8) :: (L + 1 + 1 + 1 + 1 + 1 + 1 + 1, o7) :: (L + 1 + 1 + 1 + 1 + 1 + 1, o6) :: (L + 1 + 1 + 1 + 1 + 1, o5) :: (L + 1 + 1 + 1 + 1, o4) :: (L + 1 + 1 + 1, o3) :: (L + 1 + 1, o2) :: (L + 1, o1) :: (652, tabObj #[]) :: (td, listOf #[] 0) :: (fl, listOf yf.toArray n5) :: (vl, listOf yv.toArray n4) :: (al, listOf ya.toArray n3) :: (cl, listOf (cs.map Value.ref).toArray n1) :: (tyl, listOf (ts.map Value.ref).toArray n2) :: wl) := news_in (C10 := (L + 1 + 1 + 1 + 1 + 1 + 1 + 1 + 1 + 1, o9) :: (L + 1 + 1 + 1 + 1 + 1 + 1 + 1 + 1, o8) :: (L + 1 + 1 + 1 + 1 + 1 + 1 + 1, o7) :: (L + 1 + 1 + 1 + 1 + 1 + 1, o6) :: (L + 1 + 1 + 1 + 1 + 1, o5) :: (L + 1 + 1 + 1 + 1, o4) :: (L + 1 + 1 + 1, o3) :: (L + 1 + 1, o2) :: (L + 1, o1) :: (652, tabObj #[]) :: []) N'
  clear N'
  have l2 := adr_lt (C10 := (L + 1 + 1 + 1 + 1 + 1 + 1 + 1 + 1 + 1, o9) :: (L + 1 + 1 + 1 + 1 + 1 + 1 + 1 + 1, o8) :: (L + 1 + 1 + 1 + 1 + 1 + 1 + 1, o7) :: (L + 1 + 1 + 1 + 1 + 1 + 1, o6) :: (L + 1 + 1 + 1 + 1 + 1, o5) :: (L + 1 + 1 + 1 + 1, o4) :: (L + 1 + 1 + 1, o3) :: (L + 1 + 1, o2) :: (L + 1, o1) :: (652, tabObj #[]) :: []) (as := [L + 1 + 1 + 1 + 1 + 1 + 1 + 1 + 1 + 1, L + 1 + 1 + 1 + 1 + 1 + 1 + 1 + 1, L + 1 + 1 + 1 + 1 + 1 + 1 + 1, L + 1 + 1 + 1 + 1 + 1 + 1, L + 1 + 1 + 1 + 1 + 1, L + 1 + 1 + 1 + 1, L + 1 + 1 + 1, L + 1 + 1, L + 1, 652]) l1 rfl
  have z7 : @Ne Nat td (L + 1 + 1 + 1 + 1 + 1 + 1 + 1 + 1 + 1) := Nat.ne_of_gt (l1 ((L + 1 + 1 + 1 + 1 + 1 + 1 + 1 + 1 + 1), o9) (by simp))
  repeat ((fail_if_success (with_reducible show wpAny _ _ (execs _ _) _ _ _)); (first | (k_unfold; (try dsimp only)) | walk1 | (dsimp only; walk1)))
  exact next _ _ _ td l2.1 l2.2 (by assumption) (by assumption) (by assumption)
end Mine

namespace Mine
set_option maxRecDepth 100000
section
variable {w : World} {p : Program} {loose : List Str} {mean : ExcName → Option Value} {mg mb : Str → Option Value}
theorem Gets.useK {k : Nat} {x y : Addr} {b : Bool} {W : Heap → Prop} {nm : Str} {ok : Option Addr} (Ge : Gets w p loose mean mg mb k x y b W nm ok)
    {dp un : Nat} {gd : Option (List Code)} {cn : Str} {cs : Scope} {a : Addr} {ccd : Value} {cl : List (Str × Addr)} {outer : List Env} {A₀ : Around} {base h₀ : Heap} {L : Addr}
    {m : Str → Option Value} {s : Shared} {Q E : Value → Shared → Prop} {f c' ce td : Addr} {fo oc oce : Obj} {its : Array Value} {n : Nat} {rest : List (Addr × Obj)}
    (B : Below A₀ base outer h₀) (F : Fr h₀ L s.heap m) (X : (hd.heap_39 w.params).In h₀) (N : News h₀ L s.heap (four f c' ce td fo oc oce its n ++ rest))
    (T : Top p loose mean mg mb h₀) (hk : cs.kind = .function) (hfo : FnObj fo) (hrep : b = false → Reports w p loose mean mg mb f c' ce td fo oc oce) (hsz : its.size ≤ 100) (hoff : ∀ q ∈ rest, q.1 ∉ [f, c', ce, td])
    (hW : ∀ g, GSub s.heap g [f, c', ce, td] → W g) (hd : dp + k < recursionLimit) (hu : un + 20 * k < cLine)
    (hret : ∀ r its' n' tl h' tk', Fr h₀ L h' m → News h₀ L h' (tl ++ (four f c' ce td fo oc oce its' n' ++ rest)) → (∀ q ∈ tl, s.heap.objs.size ≤ q.1) → GTOut (.ref y) nm ok b r its its' tl → Q r { s with heap := h', toks := tk' }) :
    wpAny (model PG w) (ktrTop dp un gd cn cs L a ccd cl outer) (call (.ref 624) [.ref x, .ref y, .ref f, .bool b]) Q E s := by
  refine Ge B F X (fun q hq => N q (List.mem_append_left _ hq)) T hk hfo hrep hsz hW hd hu ?_
  intro r its' n' tl h' tk' F' N' G hs hr
  refine hret r its' n' tl h' tk' F' (fun q hq => ?_) hs hr
  rw [← List.append_assoc] at hq
  rcases List.mem_append.mp hq with hq | hq
  · exact N' q hq
  · exact ⟨G _ _ (N q (List.mem_append_right _ hq)).1 (hoff q hq), (N q (List.mem_append_right _ hq)).2⟩
theorem Gets.weaken {k : Nat} {x y : Addr} {b : Bool} {W W' : Heap → Prop} {nm : Str} {ok : Option Addr} (h : ∀ g, W g → W' g) (G : Gets w p loose mean mg mb k x y b W' nm ok) : Gets w p loose mean mg mb k x y b W nm ok := by
  intro dp un gd cn cs' a ccd cl outer A₀ base h₀ L m s Q E f c' ce td fo oc oce its n B F X N T hk hfo hrep hsz hW
  exact G B F X N T hk hfo hrep hsz fun g G' => h g (hW g G')
end
/-! ## names of classes are apart -/
theorem nm_inj : ∀ i, i < 7 → ∀ j, j < 7 → (nmOf i == nmOf j) = (i == j) := by decide
theorem Good.sub_eq {chs : List (List Nat)} (g : Good chs) (h7 : chs.length ≤ 7) (i : Nat) {j : Nat} (hj : j < chs.length) : sub chs i j = (chs.getD i []).contains j := by
  have key : ∀ l : List Nat, (∀ k ∈ l, k < chs.length) → (l.any fun k => nmOf k == nmOf j) = l.contains j := by
    intro l
    induction l with
    | nil => exact fun _ => rfl
    | cons a l ih =>
      intro h
      rw [List.any_cons, List.contains_cons, ih fun k hk => h k (.tail _ hk), nm_inj a (Nat.lt_of_lt_of_le (h a (.head _)) h7) j (Nat.lt_of_lt_of_le hj h7)]
      congr 1
      rw [Bool.eq_iff_iff, beq_iff_eq, beq_iff_eq]
      exact eq_comm
  exact key _ fun k hk => g.mem_lt i k hk
theorem Good.sub_self {chs : List (List Nat)} (g : Good chs) (h7 : chs.length ≤ 7) : ∀ i, i < chs.length → sub chs i i = true := fun i hi => by
  rw [g.sub_eq h7 i hi]
  simpa using g.self hi
theorem Good.sub_anti {chs : List (List Nat)} (g : Good chs) (h7 : chs.length ≤ 7) : ∀ i j, i < chs.length → j < chs.length → sub chs i j = true → sub chs j i = true → i = j := fun i j hi hj h1 h2 => by
  rw [g.sub_eq h7 i hj] at h1
  rw [g.sub_eq h7 j hi] at h2
  exact Nat.le_antisymm (g.mem_le j hj i (by simpa using h2)) (g.mem_le i hi j (by simpa using h1))
/-- what is given for the class, the variable with values l or the bound bd -/
def okN (chs : List (List Nat)) (one bd : Nat) (l : List Nat) : Option Nat := if l.isEmpty then (if sub chs one bd then some one else none) else best chs (l.filter fun k => sub chs one k)
theorem gets_own {w : World} {p : Program} {loose : List Str} {mean : ExcName → Option Value} {mg mb : Str → Option Value} {chs : List (List Nat)} {cs ts : List Addr} {one bd : Nat} {l : List Nat} {ow : Addr} {nm : Str} {b : Bool}
    (g : Good chs) (h7 : chs.length ≤ 7) (hone : one < chs.length) (hbd : bd < chs.length) (hlt : ∀ k ∈ l, k < chs.length) (hll : l.length ≤ 4) :
    Gets w p loose mean mg mb 25 ow (ts.getD one 0) b (fun g => Wd (hAt g) chs cs ∧ TsAt (hAt g) chs cs ts ∧ TvAt (hAt g) ow nm (tyL ts l) (ts.getD (if l.isEmpty then bd else 0) 0)) nm ((okN chs one bd l).map fun k => ts.getD k 0) := by
  cases l with
  | nil =>
    have e : (okN chs one bd []).map (fun k => ts.getD k 0) = if sub chs one bd then some (ts.getD one 0) else none := by
      unfold okN
      cases sub chs one bd <;> rfl
    rw [e]
    exact @Gets.weaken w p loose mean mg mb _ _ _ _ _ (fun g => Wd (hAt g) chs cs ∧ TvAt (hAt g) ow nm [] (ts.getD bd 0) ∧ InstTo (hAt g) (ts.getD bd 0) (cs.getD bd 0) ∧ InstTo (hAt g) (ts.getD one 0) (cs.getD one 0)) _ _ (fun g h => ⟨h.1, h.2.2, h.2.1 bd hbd, h.2.1 one hone⟩)
      (@gt_bound w p loose mean mg mb chs cs one bd ow (ts.getD one 0) (ts.getD bd 0) nm b hone hbd g.mem_lt (g.sub_self h7))
  | cons k0 ks => exact @gt_inst w p loose mean mg mb chs cs ts one k0 ks ow (ts.getD 0 0) nm b hone hlt (by simp at hll; omega) g.mem_lt (g.sub_self h7)
structure LawT (L td fl vl al cl tyl : Addr) (wl : List (Addr × Obj)) : Prop where
  ctd : ∀ a ∈ ([L + 1 + 1 + 1 + 1 + 1 + 1 + 1 + 1 + 1, L + 1 + 1 + 1 + 1 + 1 + 1 + 1 + 1, L + 1 + 1 + 1 + 1 + 1 + 1 + 1, L + 1 + 1 + 1 + 1 + 1 + 1, L + 1 + 1 + 1 + 1 + 1, L + 1 + 1 + 1 + 1, L + 1 + 1 + 1, L + 1 + 1, L + 1, 652] : List Addr), @LT.lt Nat _ a td
  otd : ∀ b ∈ ([fl, vl, al, cl, tyl] : List Addr), @Ne Nat b td
  wtd : ∀ q ∈ wl, q.1 ≠ td
  oc : ∀ b ∈ ([fl, vl, al, cl, tyl] : List Addr), ∀ a ∈ ([L + 1 + 1 + 1 + 1 + 1 + 1 + 1 + 1 + 1, L + 1 + 1 + 1 + 1 + 1 + 1 + 1 + 1, L + 1 + 1 + 1 + 1 + 1 + 1 + 1, L + 1 + 1 + 1 + 1 + 1 + 1, L + 1 + 1 + 1 + 1 + 1, L + 1 + 1 + 1 + 1, L + 1 + 1 + 1, L + 1 + 1, L + 1, 652] : List Addr), @Ne Nat b a
  wc : ∀ a ∈ ([L + 1 + 1 + 1 + 1 + 1 + 1 + 1 + 1 + 1, L + 1 + 1 + 1 + 1 + 1 + 1 + 1 + 1, L + 1 + 1 + 1 + 1 + 1 + 1 + 1, L + 1 + 1 + 1 + 1 + 1 + 1, L + 1 + 1 + 1 + 1 + 1, L + 1 + 1 + 1 + 1, L + 1 + 1 + 1, L + 1 + 1, L + 1, 652] : List Addr), ∀ q ∈ wl, q.1 ≠ a
section
variable {L td fl vl al cl tyl : Addr} {wl tl : List (Addr × Obj)}
theorem LawT.more (T : LawT L td fl vl al cl tyl wl) (h1 : ∀ q ∈ tl, q.1 ≠ td) (h2 : ∀ a ∈ ([L + 1 + 1 + 1 + 1 + 1 + 1 + 1 + 1 + 1, L + 1 + 1 + 1 + 1 + 1 + 1 + 1 + 1, L + 1 + 1 + 1 + 1 + 1 + 1 + 1, L + 1 + 1 + 1 + 1 + 1 + 1, L + 1 + 1 + 1 + 1 + 1, L + 1 + 1 + 1 + 1, L + 1 + 1 + 1, L + 1 + 1, L + 1, 652] : List Addr), ∀ q ∈ tl, q.1 ≠ a) : LawT L td fl vl al cl tyl (tl ++ wl) :=
  ⟨T.ctd, T.otd, fun q hq => (List.mem_append.mp hq).elim (h1 q) (T.wtd q), T.oc, fun a ha q hq => (List.mem_append.mp hq).elim (h2 a ha q) (T.wc a ha q)⟩
theorem told_in {h H : Heap} {L : Addr} {f c d c9 : Addr × Obj} {C8 r : List (Addr × Obj)} (N : News h L H (f :: c :: c9 :: (C8 ++ d :: r))) : News h L H ([f, c, c9, d] ++ (C8 ++ r)) := fun p hp => N p (by
  simp only [List.mem_cons, List.mem_append, List.not_mem_nil, or_false] at hp ⊢
  rcases hp with (h | h | h | h) | h | h <;> simp [h])
theorem told_out {h H : Heap} {L : Addr} {f c d c9 : Addr × Obj} {C8 r wl tl : List (Addr × Obj)} (N : News h L H (tl ++ ([f, c, c9, d] ++ (C8 ++ (r ++ wl))))) : News h L H (c9 :: (C8 ++ d :: (r ++ (tl ++ wl)))) := fun p hp => N p (by
  simp only [List.mem_cons, List.mem_append, List.not_mem_nil, or_false] at hp ⊢
  rcases hp with h | h | h | h | h | h <;> simp [h])
variable {o1 o2 o3 o4 o5 o6 o7 o8 tb0 q1 q2 q3 q4 q5 : Obj}
theorem tl_off {h₀ h : Heap} {L' : Addr} {news : List (Addr × Obj)} (N : News h₀ L' h news) (hs : ∀ q ∈ tl, h.objs.size ≤ q.1) {z : Addr × Obj} (hz : z ∈ news) : ∀ q ∈ tl, q.1 ≠ z.1 := fun q hq e => absurd (Nat.lt_of_lt_of_le (Heap.lt_size (N z hz).1) (hs q hq)) (e ▸ Nat.lt_irrefl _)
theorem ne_rest {x : Addr} (h8 : ∀ a ∈ ([L + 1 + 1 + 1 + 1 + 1 + 1 + 1 + 1, L + 1 + 1 + 1 + 1 + 1 + 1 + 1, L + 1 + 1 + 1 + 1 + 1 + 1, L + 1 + 1 + 1 + 1 + 1, L + 1 + 1 + 1 + 1, L + 1 + 1 + 1, L + 1 + 1, L + 1, 652] : List Addr), @Ne Nat a x) (h5 : ∀ b ∈ ([fl, vl, al, cl, tyl] : List Addr), @Ne Nat b x) (hw : ∀ q ∈ wl, q.1 ≠ x) :
    ∀ q ∈ (L + 1 + 1 + 1 + 1 + 1 + 1 + 1 + 1, o8) :: (L + 1 + 1 + 1 + 1 + 1 + 1 + 1, o7) :: (L + 1 + 1 + 1 + 1 + 1 + 1, o6) :: (L + 1 + 1 + 1 + 1 + 1, o5) :: (L + 1 + 1 + 1 + 1, o4) :: (L + 1 + 1 + 1, o3) :: (L + 1 + 1, o2) :: (L + 1, o1) :: (652, tb0) :: (fl, q1) :: (vl, q2) :: (al, q3) :: (cl, q4) :: (tyl, q5) :: wl, q.1 ≠ x := by
  intro q hq
  have e : q.1 ∈ ([L + 1 + 1 + 1 + 1 + 1 + 1 + 1 + 1, L + 1 + 1 + 1 + 1 + 1 + 1 + 1, L + 1 + 1 + 1 + 1 + 1 + 1, L + 1 + 1 + 1 + 1 + 1, L + 1 + 1 + 1 + 1, L + 1 + 1 + 1, L + 1 + 1, L + 1, 652] : List Addr) ++ ([fl, vl, al, cl, tyl] ++ wl.map (·.1)) := by
    have := List.mem_map_of_mem (f := Prod.fst) hq
    exact this
  rcases List.mem_append.mp e with e | e
  · exact h8 _ e
  · rcases List.mem_append.mp e with e | e
    · exact h5 _ e
    · obtain ⟨z, hz, e⟩ := List.mem_map.mp e
      rw [← e]
      exact hw z hz
theorem lam_off (h652 : @LT.lt Nat _ 652 L) (T : LawT L td fl vl al cl tyl wl) {f c' : Addr} {r : List (Addr × Obj)} (hr : r = (L + 1 + 1 + 1 + 1 + 1 + 1 + 1 + 1, o8) :: (L + 1 + 1 + 1 + 1 + 1 + 1 + 1, o7) :: (L + 1 + 1 + 1 + 1 + 1 + 1, o6) :: (L + 1 + 1 + 1 + 1 + 1, o5) :: (L + 1 + 1 + 1 + 1, o4) :: (L + 1 + 1 + 1, o3) :: (L + 1 + 1, o2) :: (L + 1, o1) :: (652, tb0) :: (fl, q1) :: (vl, q2) :: (al, q3) :: (cl, q4) :: (tyl, q5) :: wl) (lc : ∀ q ∈ r, @LT.lt Nat _ q.1 c') (l2 : @LT.lt Nat _ c' f) : ∀ q ∈ r, q.1 ∉ ([f, c', (L + 1 + 1 + 1 + 1 + 1 + 1 + 1 + 1 + 1), td] : List Addr) := by
  intro q hq hm
  simp only [List.mem_cons, List.not_mem_nil, or_false] at hm
  have lq := lc q hq
  subst hr
  rcases hm with h | h | h | h
  · exact absurd (Nat.lt_trans lq l2) (h ▸ Nat.lt_irrefl _)
  · exact absurd lq (h ▸ Nat.lt_irrefl _)
  · refine ne_rest (x := (L + 1 + 1 + 1 + 1 + 1 + 1 + 1 + 1 + 1)) ?_ (fun b hb => T.oc b hb _ (by simp)) (fun q hq => T.wc _ (by simp) q hq) q hq h
    intro a ha e
    simp only [List.mem_cons, List.not_mem_nil, or_false] at ha
    rcases ha with rfl | rfl | rfl | rfl | rfl | rfl | rfl | rfl | rfl <;> omega
  · exact ne_rest (fun a ha => Nat.ne_of_lt (T.ctd a (.tail _ ha))) T.otd T.wtd q hq h
theorem lam_off2 {h H : Heap} {L' f c' : Addr} {fo oc o9 o9' d0 d1 t0 : Obj} (h652 : @LT.lt Nat _ 652 L) (T : LawT L td fl vl al cl tyl wl)
    (N1 : News h L' H ([(f, fo), (c', oc), ((L + 1 + 1 + 1 + 1 + 1 + 1 + 1 + 1 + 1), o9), (td, d1)] ++ ((L + 1 + 1 + 1 + 1 + 1 + 1 + 1 + 1, o8) :: (L + 1 + 1 + 1 + 1 + 1 + 1 + 1, o7) :: (L + 1 + 1 + 1 + 1 + 1 + 1, o6) :: (L + 1 + 1 + 1 + 1 + 1, o5) :: (L + 1 + 1 + 1 + 1, o4) :: (L + 1 + 1 + 1, o3) :: (L + 1 + 1, o2) :: (L + 1, o1) :: (652, tb0) :: (fl, q1) :: (vl, q2) :: (al, q3) :: (cl, q4) :: (tyl, q5) :: wl)))
    (lc : ∀ p ∈ ((L + 1 + 1 + 1 + 1 + 1 + 1 + 1 + 1 + 1), o9') :: (L + 1 + 1 + 1 + 1 + 1 + 1 + 1 + 1, o8) :: (L + 1 + 1 + 1 + 1 + 1 + 1 + 1, o7) :: (L + 1 + 1 + 1 + 1 + 1 + 1, o6) :: (L + 1 + 1 + 1 + 1 + 1, o5) :: (L + 1 + 1 + 1 + 1, o4) :: (L + 1 + 1 + 1, o3) :: (L + 1 + 1, o2) :: (L + 1, o1) :: (652, t0) :: (td, d0) :: (fl, q1) :: (vl, q2) :: (al, q3) :: (cl, q4) :: (tyl, q5) :: wl, @LT.lt Nat _ p.1 c') (l2 : @LT.lt Nat _ c' f) :
    ∀ q ∈ (L + 1 + 1 + 1 + 1 + 1 + 1 + 1 + 1, o8) :: (L + 1 + 1 + 1 + 1 + 1 + 1 + 1, o7) :: (L + 1 + 1 + 1 + 1 + 1 + 1, o6) :: (L + 1 + 1 + 1 + 1 + 1, o5) :: (L + 1 + 1 + 1 + 1, o4) :: (L + 1 + 1 + 1, o3) :: (L + 1 + 1, o2) :: (L + 1, o1) :: (652, tb0) :: (fl, q1) :: (vl, q2) :: (al, q3) :: (cl, q4) :: (tyl, q5) :: wl, q.1 ∉ ([f, c', (L + 1 + 1 + 1 + 1 + 1 + 1 + 1 + 1 + 1), td] : List Addr) := by
  refine lam_off h652 T rfl (fun q hq => ?_) l2
  have e : q.1 ∈ ([L + 1 + 1 + 1 + 1 + 1 + 1 + 1 + 1, L + 1 + 1 + 1 + 1 + 1 + 1 + 1, L + 1 + 1 + 1 + 1 + 1 + 1, L + 1 + 1 + 1 + 1 + 1, L + 1 + 1 + 1 + 1, L + 1 + 1 + 1, L + 1 + 1, L + 1, 652] : List Addr) ++ ([fl, vl, al, cl, tyl] ++ wl.map (·.1)) := List.mem_map_of_mem (f := Prod.fst) hq
  have e' : q.1 ∈ ((L + 1 + 1 + 1 + 1 + 1 + 1 + 1 + 1 + 1) : Addr) :: (([L + 1 + 1 + 1 + 1 + 1 + 1 + 1 + 1, L + 1 + 1 + 1 + 1 + 1 + 1 + 1, L + 1 + 1 + 1 + 1 + 1 + 1, L + 1 + 1 + 1 + 1 + 1, L + 1 + 1 + 1 + 1, L + 1 + 1 + 1, L + 1 + 1, L + 1, 652] : List Addr) ++ (td :: ([fl, vl, al, cl, tyl] ++ wl.map (·.1)))) := by
    rcases List.mem_append.mp e with e | e
    · exact .tail _ (List.mem_append_left _ e)
    · exact .tail _ (List.mem_append_right _ (.tail _ e))
  obtain ⟨z, hz, ez⟩ := List.mem_map.mp (show q.1 ∈ (((L + 1 + 1 + 1 + 1 + 1 + 1 + 1 + 1 + 1), o9') :: (L + 1 + 1 + 1 + 1 + 1 + 1 + 1 + 1, o8) :: (L + 1 + 1 + 1 + 1 + 1 + 1 + 1, o7) :: (L + 1 + 1 + 1 + 1 + 1 + 1, o6) :: (L + 1 + 1 + 1 + 1 + 1, o5) :: (L + 1 + 1 + 1 + 1, o4) :: (L + 1 + 1 + 1, o3) :: (L + 1 + 1, o2) :: (L + 1, o1) :: (652, t0) :: (td, d0) :: (fl, q1) :: (vl, q2) :: (al, q3) :: (cl, q4) :: (tyl, q5) :: wl).map Prod.fst from e')
  rw [← ez]
  exact lc z hz
end
/-- what the first call tells -/
theorem gt_first {chs : List (List Nat)} {ts : List Addr} {one bd : Nat} {l : List Nat} {nm : Str} {r : Value} {its' : Array Value} {tl : List (Addr × Obj)} (h : GTOut (.ref (ts.getD one 0)) nm ((okN chs one bd l).map fun k => ts.getD k 0) false r #[] its' tl) :
    r = .ref (ts.getD ((okN chs one bd l).getD one) 0) ∧ ∃ tps : List Addr, its' = (tps.map Value.ref).toArray ∧ tps.length = (if (okN chs one bd l).isSome then 0 else 1) ∧ ∀ tp ∈ tps, ∃ t, (tp, tup2 (.ref (ts.getD one 0)) nm t) ∈ tl := by
  unfold GTOut at h
  cases e : okN chs one bd l with
  | some k =>
    rw [e] at h
    obtain ⟨rfl, rfl, rfl⟩ := h
    exact ⟨rfl, [], rfl, rfl, fun _ h => nomatch h⟩
  | none =>
    rw [e] at h
    obtain ⟨rfl, tp, t, rfl, rfl⟩ := h
    exact ⟨rfl, [tp], rfl, rfl, fun x hx => ⟨t, by rw [List.mem_singleton.mp hx]; exact .head _⟩⟩
def skV (ts : List Addr) : Option Nat → Value
  | some k => .ref (ts.getD k 0)
  | none => .none
theorem gt_skip {ts : List Addr} {ok : Option Nat} {nm : Str} {y r : Value} {its its' : Array Value} {tl : List (Addr × Obj)} (h : GTOut y nm (ok.map fun k => ts.getD k 0) true r its its' tl) : r = skV ts ok ∧ its' = its ∧ tl = [] := by
  unfold GTOut at h
  cases ok with
  | some k => exact h
  | none => exact h
end Mine

namespace Mine
set_option maxRecDepth 100000
set_option maxHeartbeats 8000000
variable {w : World} {p : Program} {loose : List Str} {mean : ExcName → Option Value} {mg mb : Str → Option Value} {qual : Str} {body : List Stmt} {scope : Scope} {g base : Heap} {L sc fa : Addr} {vs : List Value} {ns : List Int}
theorem st10 (c : LawCtx w p loose mean mg mb qual body scope g base L sc vs ns) {s : Shared} {Q : Flow → Shared → Prop} {E : Value → Shared → Prop} {o1 o2 o3 o4 o5 o6 o7 o8 o9 : Obj} {u : Str → Option Value} {chs : List (List Nat)} {cs ts : List Addr} {cl tyl : Addr} {n1 n2 : Nat} {wl : List (Addr × Obj)} (W : LawW chs cs ts cl tyl n1 n2 wl L) {al vl ow fl td : Addr} {ya yv yf : List Value} {n3 n4 n5 nt bd one : Nat} {tb t1 : Tok} {l : List Nat} {ps : Array Value} (T : LawT L td fl vl al cl tyl wl) (hone : one < chs.length) (hbd : bd < chs.length) (hlt : ∀ k ∈ l, k < chs.length) (hll : l.length ≤ 4) (htv : ∀ At : Addr → Obj → Prop, (∀ q ∈ wl, At q.1 q.2) → TvAt At ow (Str.ofString "T") (tyL ts l) (ts.getD (if l.isEmpty then bd else 0) 0)) (d2 : cdat o2 (some (.int (one : Nat) t1))) (d3 : cdat o3 (some (.ref tyl))) (d9 : cdat o9 (some (.ref td)))
    (F : Fr g L s.heap (fun y => if y = Str.ofString "own" then some (.ref ow) else if y = Str.ofString "bound" then some (.int (bd : Nat) tb) else u y)) (N : News g L s.heap ((L + 1 + 1 + 1 + 1 + 1 + 1 + 1 + 1 + 1, o9) :: (L + 1 + 1 + 1 + 1 + 1 + 1 + 1 + 1, o8) :: (L + 1 + 1 + 1 + 1 + 1 + 1 + 1, o7) :: (L + 1 + 1 + 1 + 1 + 1 + 1, o6) :: (L + 1 + 1 + 1 + 1 + 1, o5) :: (L + 1 + 1 + 1 + 1, o4) :: (L + 1 + 1 + 1, o3) :: (L + 1 + 1, o2) :: (L + 1, o1) :: (652, tabObj #[]) :: (td, listOf #[] 0) :: (fl, listOf yf.toArray n5) :: (vl, listOf yv.toArray n4) :: (al, listOf ya.toArray n3) :: (cl, listOf (cs.map Value.ref).toArray n1) :: (tyl, listOf (ts.map Value.ref).toArray n2) :: wl))
    (next : ∀ h' tk k1 wl gv tps nt, LawW chs cs ts cl tyl n1 n2 wl L → LawT L td fl vl al cl tyl wl → (∀ At : Addr → Obj → Prop, (∀ q ∈ wl, At q.1 q.2) → TvAt At ow (Str.ofString "T") (tyL ts l) (ts.getD (if l.isEmpty then bd else 0) 0)) →
      gv = ts.getD ((okN chs one bd l).getD one) 0 → (tps : List Addr).length = (if (okN chs one bd l).isSome then 0 else 1) → (∀ tp ∈ tps, ∃ t, (tp, tup2 (.ref (ts.getD one 0)) (Str.ofString "T") t) ∈ wl) →
      Fr g L h' (fun y => if y = Str.ofString "given" then some (.ref gv) else if y = Str.ofString "own" then some (.ref ow) else if y = Str.ofString "bound" then some (.int (bd : Nat) tb) else u y) → News g L h' ((L + 1 + 1 + 1 + 1 + 1 + 1 + 1 + 1 + 1, o9) :: (L + 1 + 1 + 1 + 1 + 1 + 1 + 1 + 1, o8) :: (L + 1 + 1 + 1 + 1 + 1 + 1 + 1, o7) :: (L + 1 + 1 + 1 + 1 + 1 + 1, o6) :: (L + 1 + 1 + 1 + 1 + 1, o5) :: (L + 1 + 1 + 1 + 1, o4) :: (L + 1 + 1 + 1, o3) :: (L + 1 + 1, o2) :: (L + 1, o1) :: (652, tabObj (#[] ++ #[rawInt ((403 : Nat) : Int), rawInt ((45 : Nat) : Int), Value.ref k1])) :: (td, listOf (tps.map Value.ref).toArray nt) :: (fl, listOf yf.toArray n5) :: (vl, listOf yv.toArray n4) :: (al, listOf ya.toArray n3) :: (cl, listOf (cs.map Value.ref).toArray n1) :: (tyl, listOf (ts.map Value.ref).toArray n2) :: wl) → wpAny (model PG w) (callerA.deeper (lawEnv qual scope L fa)) (execs (body.drop 11) (lawEnv qual scope L fa)) Q E { s with heap := h', toks := tk }) :
    wpAny (model PG w) (callerA.deeper (lawEnv qual scope L fa)) (execs (body.drop 10) (lawEnv qual scope L fa)) Q E s := by
  obtain ⟨hf, K, X, TP, hl, hI, hlen, hC⟩ := c
  obtain ⟨name, params, dV, kV, doc, pm, an, cdv, ct, oc, od, osl, hf⟩ := hf
  have hf2 : (hd.heap_39 w.params).lookup 655 = some ⟨_, _, .func (fnOf _ _ _ _ _ _ _ _ _ _ _ _), _⟩ := rfl
  rw [hf2] at hf
  cases hf
  clear hf2
  dsimp only [List.drop, ifBody]
  have hcs := W.hcs
  have hts := W.hts
  have hlc := W.hlc
  have h652 := W.h652
  have hpos := W.hgd.pos
  have y0 : @Ne Nat fl (652 : Nat) := T.oc fl (by simp) (652 : Nat) (by simp)
  have y1 : @Ne Nat vl (652 : Nat) := T.oc vl (by simp) (652 : Nat) (by simp)
  have y2 : @Ne Nat al (652 : Nat) := T.oc al (by simp) (652 : Nat) (by simp)
  have y3 : @Ne Nat cl (652 : Nat) := T.oc cl (by simp) (652 : Nat) (by simp)
  have y4 : @Ne Nat tyl (652 : Nat) := T.oc tyl (by simp) (652 : Nat) (by simp)
  have y5 : @Ne Nat td (652 : Nat) := Nat.ne_of_gt (T.ctd (652 : Nat) (by simp))
  have y6 : ∀ q ∈ wl, q.1 ≠ (652 : Nat) := T.wc (652 : Nat) (by simp)
  repeat ((fail_if_success (with_reducible show wpAny _ _ (call (Value.ref 624) _ _) _ _ _)); (first | (k_unfold; (try dsimp only)) | walk1 | (dsimp only; walk1)))
  rename (@LT.lt Nat _ (L + 1 + 1 + 1 + 1 + 1 + 1 + 1 + 1 + 1) _ ∧ _) => lc
  rename (@LT.lt Nat _ _ _) => lc2
  rename News _ _ _ _ => Nx
  have lc' := of_allLt (l := (L + 1 + 1 + 1 + 1 + 1 + 1 + 1 + 1 + 1, o9) :: (L + 1 + 1 + 1 + 1 + 1 + 1 + 1 + 1, o8) :: (L + 1 + 1 + 1 + 1 + 1 + 1 + 1, o7) :: (L + 1 + 1 + 1 + 1 + 1 + 1, o6) :: (L + 1 + 1 + 1 + 1 + 1, o5) :: (L + 1 + 1 + 1 + 1, o4) :: (L + 1 + 1 + 1, o3) :: (L + 1 + 1, o2) :: (L + 1, o1) :: (652, tabObj #[]) :: (td, listOf #[] 0) :: (fl, listOf yf.toArray n5) :: (vl, listOf yv.toArray n4) :: (al, listOf ya.toArray n3) :: (cl, listOf (cs.map Value.ref).toArray n1) :: (tyl, listOf (ts.map Value.ref).toArray n2) :: wl) lc
  have N1 := told_in (C8 := (L + 1 + 1 + 1 + 1 + 1 + 1 + 1 + 1, o8) :: (L + 1 + 1 + 1 + 1 + 1 + 1 + 1, o7) :: (L + 1 + 1 + 1 + 1 + 1 + 1, o6) :: (L + 1 + 1 + 1 + 1 + 1, o5) :: (L + 1 + 1 + 1 + 1, o4) :: (L + 1 + 1 + 1, o3) :: (L + 1 + 1, o2) :: (L + 1, o1) :: (652, _) :: []) (d := (td, listOf #[] 0)) (r := (fl, listOf yf.toArray n5) :: (vl, listOf yv.toArray n4) :: (al, listOf ya.toArray n3) :: (cl, listOf (cs.map Value.ref).toArray n1) :: (tyl, listOf (ts.map Value.ref).toArray n2) :: wl) Nx
  have hoff := lam_off2 h652 T N1 lc' lc2
  have hwm : ∀ (tb0 : Obj), ∀ q ∈ wl, q ∈ (L + 1 + 1 + 1 + 1 + 1 + 1 + 1 + 1, o8) :: (L + 1 + 1 + 1 + 1 + 1 + 1 + 1, o7) :: (L + 1 + 1 + 1 + 1 + 1 + 1, o6) :: (L + 1 + 1 + 1 + 1 + 1, o5) :: (L + 1 + 1 + 1 + 1, o4) :: (L + 1 + 1 + 1, o3) :: (L + 1 + 1, o2) :: (L + 1, o1) :: (652, tb0) :: (fl, listOf yf.toArray n5) :: (vl, listOf yv.toArray n4) :: (al, listOf ya.toArray n3) :: (cl, listOf (cs.map Value.ref).toArray n1) :: (tyl, listOf (ts.map Value.ref).toArray n2) :: wl := fun tb0 q hq => by repeat (first | exact hq | refine .tail _ ?_)
  have lc3 : @LT.lt Nat _ td _ := lc' (td, listOf #[] 0) (by simp)
  k_dflt (refine' Gets.useK (@gets_own w _ _ _ _ _ chs cs ts one bd l ow (Str.ofString "T") false W.hgd W.hlc hone hbd hlt hll) ?k1 ?k2 ?k3 N1 ?k5 ?k6 ?k7 ?k8 ?k9 hoff ?kW ?kd ?ku ?_)
  case k1 => k_asm
  case k2 => k_asm
  case k3 => k_asm
  case k5 => k_asm
  case k6 => exact rfl
  case k7 => exact ⟨_, _, _, _, rfl⟩
  case k8 => exact fun _ => @lam_call1 w _ _ _ _ _ _ _ _ _ _ _ _ _ _ _ _ _ (by assumption) (by assumption) d9 (T.ctd _ (by simp)) lc3 lc2
  case k9 => decide
  case kW =>
    intro g9 G9
    have hw9 : ∀ q ∈ wl, hAt g9 q.1 q.2 := fun q hq => G9 _ _ (N1 q (List.mem_append_right _ (hwm _ q hq))).1 (hoff q (hwm _ q hq))
    exact ⟨(W.hwd _ hw9).1, (W.hwd _ hw9).2, htv _ hw9⟩
  case kd => k_room
  case ku => k_units
  intro r its' n' tl h' tk' F' N' hs hr
  obtain ⟨rfl, tps, rfl, htl, htp⟩ := gt_first hr
  have N2 := told_out (C8 := (L + 1 + 1 + 1 + 1 + 1 + 1 + 1 + 1, o8) :: (L + 1 + 1 + 1 + 1 + 1 + 1 + 1, o7) :: (L + 1 + 1 + 1 + 1 + 1 + 1, o6) :: (L + 1 + 1 + 1 + 1 + 1, o5) :: (L + 1 + 1 + 1 + 1, o4) :: (L + 1 + 1 + 1, o3) :: (L + 1 + 1, o2) :: (L + 1, o1) :: (652, _) :: []) (r := (fl, listOf yf.toArray n5) :: (vl, listOf yv.toArray n4) :: (al, listOf ya.toArray n3) :: (cl, listOf (cs.map Value.ref).toArray n1) :: (tyl, listOf (ts.map Value.ref).toArray n2) :: []) (wl := wl) (tl := tl) N'
  clear N'
  have hcad := off_adr (l := ((L + 1 + 1 + 1 + 1 + 1 + 1 + 1 + 1 + 1), o9) :: (L + 1 + 1 + 1 + 1 + 1 + 1 + 1 + 1, o8) :: (L + 1 + 1 + 1 + 1 + 1 + 1 + 1, o7) :: (L + 1 + 1 + 1 + 1 + 1 + 1, o6) :: (L + 1 + 1 + 1 + 1 + 1, o5) :: (L + 1 + 1 + 1 + 1, o4) :: (L + 1 + 1 + 1, o3) :: (L + 1 + 1, o2) :: (L + 1, o1) :: (652, _) :: []) (as := [L + 1 + 1 + 1 + 1 + 1 + 1 + 1 + 1 + 1, L + 1 + 1 + 1 + 1 + 1 + 1 + 1 + 1, L + 1 + 1 + 1 + 1 + 1 + 1 + 1, L + 1 + 1 + 1 + 1 + 1 + 1, L + 1 + 1 + 1 + 1 + 1, L + 1 + 1 + 1 + 1, L + 1 + 1 + 1, L + 1 + 1, L + 1, 652]) (tl := tl) (fun z hz => tl_off Nx hs (.tail _ (.tail _ (List.mem_append_left ((td, listOf #[] 0) :: (fl, listOf yf.toArray n5) :: (vl, listOf yv.toArray n4) :: (al, listOf ya.toArray n3) :: (cl, listOf (cs.map Value.ref).toArray n1) :: (tyl, listOf (ts.map Value.ref).toArray n2) :: wl) hz)))) rfl
  have htd := tl_off (tl := tl) Nx hs (z := (td, listOf #[] 0)) (by simp)
  have W' := W.more hcad
  have T' := T.more htd hcad
  clear Nx N1 W T
  dsimp only
  repeat ((fail_if_success (with_reducible show wpAny _ _ (execs _ _) _ _ _)); (first | (k_unfold; (try dsimp only)) | walk1 | (dsimp only; walk1)))
  exact next _ _ _ (tl ++ wl) _ tps n' W' T' (fun At hAt => htv At fun q hq => hAt q (List.mem_append_right _ hq)) rfl htl (fun tp h => (htp tp h).elim fun t h => ⟨t, List.mem_append_left _ h⟩) (by assumption) (by assumption)
theorem st11 (c : LawCtx w p loose mean mg mb qual body scope g base L sc vs ns) {s : Shared} {Q : Flow → Shared → Prop} {E : Value → Shared → Prop} {o1 o2 o3 o4 o5 o6 o7 o8 o9 : Obj} {u : Str → Option Value} {chs : List (List Nat)} {cs ts : List Addr} {cl tyl : Addr} {n1 n2 : Nat} {wl : List (Addr × Obj)} (W : LawW chs cs ts cl tyl n1 n2 wl L) {al vl ow fl td : Addr} {ya yv yf : List Value} {n3 n4 n5 nt bd one : Nat} {tb t1 : Tok} {l : List Nat} {ps : Array Value} (T : LawT L td fl vl al cl tyl wl) (hone : one < chs.length) (hbd : bd < chs.length) (hlt : ∀ k ∈ l, k < chs.length) (hll : l.length ≤ 4) (htv : ∀ At : Addr → Obj → Prop, (∀ q ∈ wl, At q.1 q.2) → TvAt At ow (Str.ofString "T") (tyL ts l) (ts.getD (if l.isEmpty then bd else 0) 0)) {gv k1 : Addr} {tps : List Addr} (htl : tps.length ≤ 1) (d2 : cdat o2 (some (.int (one : Nat) t1))) (d3 : cdat o3 (some (.ref tyl))) (d9 : cdat o9 (some (.ref td)))
    (F : Fr g L s.heap (fun y => if y = Str.ofString "given" then some (.ref gv) else if y = Str.ofString "own" then some (.ref ow) else if y = Str.ofString "bound" then some (.int (bd : Nat) tb) else u y)) (N : News g L s.heap ((L + 1 + 1 + 1 + 1 + 1 + 1 + 1 + 1 + 1, o9) :: (L + 1 + 1 + 1 + 1 + 1 + 1 + 1 + 1, o8) :: (L + 1 + 1 + 1 + 1 + 1 + 1 + 1, o7) :: (L + 1 + 1 + 1 + 1 + 1 + 1, o6) :: (L + 1 + 1 + 1 + 1 + 1, o5) :: (L + 1 + 1 + 1 + 1, o4) :: (L + 1 + 1 + 1, o3) :: (L + 1 + 1, o2) :: (L + 1, o1) :: (652, tabObj (#[] ++ #[rawInt ((403 : Nat) : Int), rawInt ((45 : Nat) : Int), Value.ref k1])) :: (td, listOf (tps.map Value.ref).toArray nt) :: (fl, listOf yf.toArray n5) :: (vl, listOf yv.toArray n4) :: (al, listOf ya.toArray n3) :: (cl, listOf (cs.map Value.ref).toArray n1) :: (tyl, listOf (ts.map Value.ref).toArray n2) :: wl))
    (next : ∀ h' tk k2 pv nt, pv = skV ts (okN chs one bd l) → Fr g L h' (fun y => if y = Str.ofString "passed" then some pv else if y = Str.ofString "given" then some (.ref gv) else if y = Str.ofString "own" then some (.ref ow) else if y = Str.ofString "bound" then some (.int (bd : Nat) tb) else u y) → News g L h' ((L + 1 + 1 + 1 + 1 + 1 + 1 + 1 + 1 + 1, o9) :: (L + 1 + 1 + 1 + 1 + 1 + 1 + 1 + 1, o8) :: (L + 1 + 1 + 1 + 1 + 1 + 1 + 1, o7) :: (L + 1 + 1 + 1 + 1 + 1 + 1, o6) :: (L + 1 + 1 + 1 + 1 + 1, o5) :: (L + 1 + 1 + 1 + 1, o4) :: (L + 1 + 1 + 1, o3) :: (L + 1 + 1, o2) :: (L + 1, o1) :: (652, tabObj ((#[] ++ #[rawInt ((403 : Nat) : Int), rawInt ((45 : Nat) : Int), Value.ref k1]) ++ #[rawInt ((404 : Nat) : Int), rawInt ((46 : Nat) : Int), Value.ref k2])) :: (td, listOf (tps.map Value.ref).toArray nt) :: (fl, listOf yf.toArray n5) :: (vl, listOf yv.toArray n4) :: (al, listOf ya.toArray n3) :: (cl, listOf (cs.map Value.ref).toArray n1) :: (tyl, listOf (ts.map Value.ref).toArray n2) :: wl) → wpAny (model PG w) (callerA.deeper (lawEnv qual scope L fa)) (execs (body.drop 12) (lawEnv qual scope L fa)) Q E { s with heap := h', toks := tk }) :
    wpAny (model PG w) (callerA.deeper (lawEnv qual scope L fa)) (execs (body.drop 11) (lawEnv qual scope L fa)) Q E s := by
  obtain ⟨hf, K, X, TP, hl, hI, hlen, hC⟩ := c
  obtain ⟨name, params, dV, kV, doc, pm, an, cdv, ct, oc, od, osl, hf⟩ := hf
  have hf2 : (hd.heap_39 w.params).lookup 655 = some ⟨_, _, .func (fnOf _ _ _ _ _ _ _ _ _ _ _ _), _⟩ := rfl
  rw [hf2] at hf
  cases hf
  clear hf2
  dsimp only [List.drop, ifBody]
  have hcs := W.hcs
  have hts := W.hts
  have hlc := W.hlc
  have h652 := W.h652
  have hpos := W.hgd.pos
  have y0 : @Ne Nat fl (652 : Nat) := T.oc fl (by simp) (652 : Nat) (by simp)
  have y1 : @Ne Nat vl (652 : Nat) := T.oc vl (by simp) (652 : Nat) (by simp)
  have y2 : @Ne Nat al (652 : Nat) := T.oc al (by simp) (652 : Nat) (by simp)
  have y3 : @Ne Nat cl (652 : Nat) := T.oc cl (by simp) (652 : Nat) (by simp)
  have y4 : @Ne Nat tyl (652 : Nat) := T.oc tyl (by simp) (652 : Nat) (by simp)
  have y5 : @Ne Nat td (652 : Nat) := Nat.ne_of_gt (T.ctd (652 : Nat) (by simp))
  have y6 : ∀ q ∈ wl, q.1 ≠ (652 : Nat) := T.wc (652 : Nat) (by simp)
  repeat ((fail_if_success (with_reducible show wpAny _ _ (call (Value.ref 624) _ _) _ _ _)); (first | (k_unfold; (try dsimp only)) | walk1 | (dsimp only; walk1)))
  rename (@LT.lt Nat _ (L + 1 + 1 + 1 + 1 + 1 + 1 + 1 + 1 + 1) _ ∧ _) => lc
  rename (@LT.lt Nat _ _ _) => lc2
  rename News _ _ _ _ => Nx
  have lc' := of_allLt (l := (L + 1 + 1 + 1 + 1 + 1 + 1 + 1 + 1 + 1, o9) :: (L + 1 + 1 + 1 + 1 + 1 + 1 + 1 + 1, o8) :: (L + 1 + 1 + 1 + 1 + 1 + 1 + 1, o7) :: (L + 1 + 1 + 1 + 1 + 1 + 1, o6) :: (L + 1 + 1 + 1 + 1 + 1, o5) :: (L + 1 + 1 + 1 + 1, o4) :: (L + 1 + 1 + 1, o3) :: (L + 1 + 1, o2) :: (L + 1, o1) :: (652, tabObj (#[] ++ #[rawInt ((403 : Nat) : Int), rawInt ((45 : Nat) : Int), Value.ref k1])) :: (td, listOf (tps.map Value.ref).toArray nt) :: (fl, listOf yf.toArray n5) :: (vl, listOf yv.toArray n4) :: (al, listOf ya.toArray n3) :: (cl, listOf (cs.map Value.ref).toArray n1) :: (tyl, listOf (ts.map Value.ref).toArray n2) :: wl) lc
  have N1 := told_in (C8 := (L + 1 + 1 + 1 + 1 + 1 + 1 + 1 + 1, o8) :: (L + 1 + 1 + 1 + 1 + 1 + 1 + 1, o7) :: (L + 1 + 1 + 1 + 1 + 1 + 1, o6) :: (L + 1 + 1 + 1 + 1 + 1, o5) :: (L + 1 + 1 + 1 + 1, o4) :: (L + 1 + 1 + 1, o3) :: (L + 1 + 1, o2) :: (L + 1, o1) :: (652, _) :: []) (d := (td, listOf (tps.map Value.ref).toArray nt)) (r := (fl, listOf yf.toArray n5) :: (vl, listOf yv.toArray n4) :: (al, listOf ya.toArray n3) :: (cl, listOf (cs.map Value.ref).toArray n1) :: (tyl, listOf (ts.map Value.ref).toArray n2) :: wl) Nx
  have hoff := lam_off2 h652 T N1 lc' lc2
  have hwm : ∀ (tb0 : Obj), ∀ q ∈ wl, q ∈ (L + 1 + 1 + 1 + 1 + 1 + 1 + 1 + 1, o8) :: (L + 1 + 1 + 1 + 1 + 1 + 1 + 1, o7) :: (L + 1 + 1 + 1 + 1 + 1 + 1, o6) :: (L + 1 + 1 + 1 + 1 + 1, o5) :: (L + 1 + 1 + 1 + 1, o4) :: (L + 1 + 1 + 1, o3) :: (L + 1 + 1, o2) :: (L + 1, o1) :: (652, tb0) :: (fl, listOf yf.toArray n5) :: (vl, listOf yv.toArray n4) :: (al, listOf ya.toArray n3) :: (cl, listOf (cs.map Value.ref).toArray n1) :: (tyl, listOf (ts.map Value.ref).toArray n2) :: wl := fun tb0 q hq => by repeat (first | exact hq | refine .tail _ ?_)
  have lc3 : @LT.lt Nat _ td _ := lc' (td, listOf (tps.map Value.ref).toArray nt) (by simp)
  k_dflt (refine' Gets.useK (@gets_own w _ _ _ _ _ chs cs ts one bd l ow (Str.ofString "T") true W.hgd W.hlc hone hbd hlt hll) ?k1 ?k2 ?k3 N1 ?k5 ?k6 ?k7 ?k8 ?k9 hoff ?kW ?kd ?ku ?_)
  case k1 => k_asm
  case k2 => k_asm
  case k3 => k_asm
  case k5 => k_asm
  case k6 => exact rfl
  case k7 => exact ⟨_, _, _, _, rfl⟩
  case k8 => exact fun h => Bool.noConfusion h
  case k9 => rw [List.size_toArray, List.length_map]; omega
  case kW =>
    intro g9 G9
    have hw9 : ∀ q ∈ wl, hAt g9 q.1 q.2 := fun q hq => G9 _ _ (N1 q (List.mem_append_right _ (hwm _ q hq))).1 (hoff q (hwm _ q hq))
    exact ⟨(W.hwd _ hw9).1, (W.hwd _ hw9).2, htv _ hw9⟩
  case kd => k_room
  case ku => k_units
  intro r its' n' tl h' tk' F' N' hs hr
  obtain ⟨rfl, rfl, rfl⟩ := gt_skip hr
  have N2 := told_out (C8 := (L + 1 + 1 + 1 + 1 + 1 + 1 + 1 + 1, o8) :: (L + 1 + 1 + 1 + 1 + 1 + 1 + 1, o7) :: (L + 1 + 1 + 1 + 1 + 1 + 1, o6) :: (L + 1 + 1 + 1 + 1 + 1, o5) :: (L + 1 + 1 + 1 + 1, o4) :: (L + 1 + 1 + 1, o3) :: (L + 1 + 1, o2) :: (L + 1, o1) :: (652, _) :: []) (r := (fl, listOf yf.toArray n5) :: (vl, listOf yv.toArray n4) :: (al, listOf ya.toArray n3) :: (cl, listOf (cs.map Value.ref).toArray n1) :: (tyl, listOf (ts.map Value.ref).toArray n2) :: []) (wl := wl) (tl := []) N'
  clear N' Nx N1
  dsimp only
  repeat ((fail_if_success (with_reducible show wpAny _ _ (execs _ _) _ _ _)); (first | (k_unfold; (try dsimp only)) | walk1 | (dsimp only; walk1)))
  exact next _ _ _ _ n' rfl (by assumption) (by assumption)
end Mine

namespace Mine
abbrev lnL (chs : List (List Nat)) (k : Nat) : Nat := (chs.getD k []).length
/-- no other of the list has a longer line -/
def dueT (chs : List (List Nat)) (fit : List Nat) (k : Nat) : Bool := (fit.filter fun j => decide (lnL chs j > lnL chs k)).isEmpty
variable {chs : List (List Nat)}
theorem Good.head (g : Good chs) {i : Nat} (hi : i < chs.length) : ∃ r, chs.getD i [] = i :: r := by
  rcases Nat.eq_zero_or_pos i with rfl | e
  · exact ⟨_, g.zero⟩
  · obtain ⟨p, _, e⟩ := g.step i e hi; exact ⟨_, e⟩
theorem Good.suffix (g : Good chs) : ∀ i, i < chs.length → ∀ k ∈ chs.getD i [], ∃ pre, chs.getD i [] = pre ++ chs.getD k [] := by
  intro i
  induction i using Nat.strongRecOn with
  | ind i ih =>
    intro hi k hk
    rcases Nat.eq_zero_or_pos i with rfl | e
    · rw [g.zero] at hk
      rw [List.mem_singleton.mp hk]
      exact ⟨[], rfl⟩
    · obtain ⟨p, hp, e'⟩ := g.step i e hi
      rw [e'] at hk
      rcases List.mem_cons.mp hk with rfl | hk
      · exact ⟨[], rfl⟩
      · obtain ⟨pre, h⟩ := ih p hp (Nat.lt_trans hp hi) k hk
        exact ⟨i :: pre, by rw [e', h]; rfl⟩
theorem Good.chain_sub (g : Good chs) (h7 : chs.length ≤ 7) {one k b : Nat} (hone : one < chs.length) (hk : k ∈ chs.getD one []) (hb : b ∈ chs.getD one []) : sub chs k b = decide (lnL chs b ≤ lnL chs k) := by
  have hbl := g.mem_lt one b hb
  have hkl := g.mem_lt one k hk
  rw [g.sub_eq h7 k hbl, Bool.eq_iff_iff, decide_eq_true_iff, List.contains_iff_mem]
  constructor
  · intro h
    obtain ⟨pre, e⟩ := g.suffix k hkl b h
    show (chs.getD b []).length ≤ (chs.getD k []).length
    rw [e, List.length_append]
    exact Nat.le_add_left _ _
  · intro h
    obtain ⟨p1, e1⟩ := g.suffix one hone k hk
    obtain ⟨p2, e2⟩ := g.suffix one hone b hb
    have h1 : chs.getD k [] <:+ chs.getD one [] := ⟨p1, e1.symm⟩
    have h2 : chs.getD b [] <:+ chs.getD one [] := ⟨p2, e2.symm⟩
    exact (List.suffix_of_suffix_length_le h2 h1 h).subset (g.self hbl)
theorem Good.chain_eq (g : Good chs) {one k b : Nat} (hone : one < chs.length) (hk : k ∈ chs.getD one []) (hb : b ∈ chs.getD one []) (h : lnL chs b = lnL chs k) : b = k := by
  have hbl := g.mem_lt one b hb
  have hkl := g.mem_lt one k hk
  obtain ⟨p1, e1⟩ := g.suffix one hone k hk
  obtain ⟨p2, e2⟩ := g.suffix one hone b hb
  have h1 : chs.getD k [] <:+ chs.getD one [] := ⟨p1, e1.symm⟩
  have h2 : chs.getD b [] <:+ chs.getD one [] := ⟨p2, e2.symm⟩
  have h3 := (List.suffix_of_suffix_length_le h2 h1 (Nat.le_of_eq h)).eq_of_length h
  obtain ⟨r1, q1⟩ := g.head hbl
  obtain ⟨r2, q2⟩ := g.head hkl
  rw [q1, q2] at h3
  exact (List.cons.inj h3).1
theorem Good.pick_max (g : Good chs) (h7 : chs.length ≤ 7) {one : Nat} (hone : one < chs.length) : ∀ (fr : List Nat) (f0 : Nat), (∀ k ∈ f0 :: fr, k ∈ chs.getD one []) → pick chs f0 fr ∈ f0 :: fr ∧ ∀ k ∈ f0 :: fr, lnL chs k ≤ lnL chs (pick chs f0 fr) := by
  intro fr
  induction fr with
  | nil =>
    intro f0 _
    exact ⟨.head _, fun k hk => by rw [List.mem_singleton.mp hk]; exact Nat.le_refl _⟩
  | cons a fr ih =>
    intro f0 h
    have e : pick chs f0 (a :: fr) = pick chs (if sub chs a f0 then a else f0) fr := rfl
    have hs := g.chain_sub h7 hone (h a (.tail _ (.head _))) (h f0 (.head _))
    have hx : ∀ k ∈ (if sub chs a f0 then a else f0) :: fr, k ∈ chs.getD one [] := fun k hk => by
      rcases List.mem_cons.mp hk with rfl | hk
      · split
        · exact h a (.tail _ (.head _))
        · exact h f0 (.head _)
      · exact h k (.tail _ (.tail _ hk))
    obtain ⟨m1, m2⟩ := ih _ hx
    rw [e]
    refine ⟨?_, fun k hk => ?_⟩
    · rcases List.mem_cons.mp m1 with q | q
      · rw [q]; split
        · exact .tail _ (.head _)
        · exact .head _
      · exact .tail _ (.tail _ q)
    · have m0 := m2 _ (.head _)
      rcases List.mem_cons.mp hk with rfl | hk
      · refine Nat.le_trans ?_ m0
        split
        · rename_i q; rw [hs] at q; exact of_decide_eq_true q
        · exact Nat.le_refl _
      · rcases List.mem_cons.mp hk with rfl | hk
        · refine Nat.le_trans ?_ m0
          split
          · exact Nat.le_refl _
          · rename_i q; rw [hs] at q; exact Nat.le_of_lt (Nat.lt_of_not_le fun q' => q (decide_eq_true q'))
        · exact m2 k (.tail _ hk)
/-- the deepest fitting class is what get_target_type picks -/
theorem Good.due_best (g : Good chs) (h7 : chs.length ≤ 7) {one : Nat} (hone : one < chs.length) {fit : List Nat} (hf : ∀ k ∈ fit, k ∈ chs.getD one []) (hne : fit ≠ []) : ∃ d r, fit.filter (dueT chs fit) = d :: r ∧ best chs fit = some d := by
  cases fit with
  | nil => exact absurd rfl hne
  | cons f0 fr =>
    obtain ⟨m1, m2⟩ := g.pick_max h7 hone fr f0 hf
    have hd : pick chs f0 fr ∈ (f0 :: fr).filter (dueT chs (f0 :: fr)) := by
      refine List.mem_filter.mpr ⟨m1, ?_⟩
      unfold dueT
      rw [List.isEmpty_iff, List.filter_eq_nil_iff]
      intro j hj q
      exact absurd (of_decide_eq_true q) (Nat.not_lt_of_le (m2 j hj))
    cases e : (f0 :: fr).filter (dueT chs (f0 :: fr)) with
    | nil => rw [e] at hd; exact absurd hd List.not_mem_nil
    | cons d r =>
      have hdm : d ∈ (f0 :: fr).filter (dueT chs (f0 :: fr)) := by rw [e]; exact .head _
      obtain ⟨q1, q2⟩ := List.mem_filter.mp hdm
      unfold dueT at q2
      rw [List.isEmpty_iff, List.filter_eq_nil_iff] at q2
      have q3 : ¬ lnL chs (pick chs f0 fr) > lnL chs d := fun h => q2 _ m1 (decide_eq_true h)
      refine ⟨d, r, rfl, ?_⟩
      have : d = pick chs f0 fr := g.chain_eq hone (hf _ m1) (hf _ q1) (Nat.le_antisymm (m2 d q1) (Nat.le_of_not_lt q3))
      rw [this]
      rfl
end Mine

namespace Mine
set_option maxRecDepth 100000
section
variable {prog : Program} {w : World} {A : Around} {E : Value → Shared → Prop} {s : Shared}
theorem len_line {l : Addr} {cs : List Addr} {ls : List Nat} {Q : Value → Shared → Prop} (hl : s.heap.IsList l (clV cs ls).toArray) (hz : ls.length ≤ 1000) (h : Q (.int (ls.length : Nat) (s.toks + 1)) { s with toks := s.toks + 1 + 1 }) : wpAny (model prog w) A (call (.builtin "len") [.ref l]) Q E s :=
  len_at ls.length hl (by simp) hz h
end
theorem LawW.lz {chs : List (List Nat)} {cs ts : List Addr} {cl tyl : Addr} {n1 n2 : Nat} {wl : List (Addr × Obj)} {L : Addr} (W : LawW chs cs ts cl tyl n1 n2 wl L) {i : Nat} (hi : i < chs.length) : (chs.getD i []).length ≤ 1000 := Nat.le_trans (W.ll hi) (by decide)
theorem nats_idx {ys : List Value} {l : List Nat} (h : NatsAre ys l) : ∀ is : List Nat, (∀ i ∈ is, i < l.length) → NatsAre (is.map fun i => ys.getD i .none) (is.map fun i => l.getD i 0)
  | [], _ => .nil
  | i :: is, hi => by
    have hil := hi i (.head _)
    have hyl : i < ys.length := by rw [nats_len h]; exact hil
    obtain ⟨k, t, e1, e2⟩ := nats_at h (List.getElem?_eq_getElem hyl)
    have : ys.getD i .none = .int (k : Nat) t := by rw [List.getD_eq_getElem?_getD, List.getElem?_eq_getElem hyl, Option.getD_some, e2]
    have hk : l.getD i 0 = k := by rw [List.getD_eq_getElem?_getD, e1]; rfl
    rw [List.map_cons, List.map_cons, this, hk]
    exact .cons _ _ (nats_idx h is fun j hj => hi j (.tail _ hj))
theorem nats_filter {ys : List Value} {l : List Nat} {n : Nat} (h : NatsAre ys l) (hn : n = l.length) (t : Nat → Bool) : NatsAre (((List.range n).filter fun i => t (l.getD i 0)).map fun i => ys.getD i .none) (l.filter t) := by
  subst hn
  have := nats_idx h ((List.range l.length).filter fun i => t (l.getD i 0)) (fun i hi => List.mem_range.mp (List.mem_filter.mp hi).1)
  rw [filter_getD l t 0] at this
  exact this
theorem inner_empty {ys : List Value} {l : List Nat} {n : Nat} (hn : n = l.length) (t : Nat → Bool) : (((List.range n).filter fun i => t (l.getD i 0)).map fun i => ys.getD i .none).isEmpty = (l.filter t).isEmpty := by
  subst hn
  rw [← filter_getD l t 0, List.isEmpty_map, List.isEmpty_map]
theorem fr_swap {g h : Heap} {L : Addr} {a b : Option Value} {m : Str → Option Value} {x z : Str} (hx : x ≠ z) (F : Fr g L h (fun q => if q = x then a else if q = z then b else m q)) : Fr g L h (fun q => if q = z then b else if q = x then a else m q) := by
  have e : (fun q => if q = x then a else if q = z then b else m q) = fun q => if q = z then b else if q = x then a else m q := by
    funext q
    by_cases h1 : q = x
    · subst h1; simp [hx]
    · simp [h1]
  rw [e] at F
  exact F
theorem getD_some {ys : List Value} {i : Nat} {v : Value} (h : ys[i]? = some v) : ys.getD i .none = v := by rw [List.getD_eq_getElem?_getD, h]; rfl
end Mine
local macro_rules | `(tactic| walk_at "call builtin:len") => `(tactic| (k_here; (with_reducible show wpAny _ _ (call (Value.builtin _) [Value.ref _]) _ _ _); k_dflt (refine' Mine.len_line ?hl ?hz ?_; (case hl => (refine' News.isList ?g ?i; (case g => k_asm); (case i => k_mem))); (case hz => exact Mine.LawW.lz (by assumption) (by assumption)); k_whole)))
namespace Mine
set_option maxRecDepth 100000
set_option maxHeartbeats 8000000
variable {w : World} {p : Program} {loose : List Str} {mean : ExcName → Option Value} {mg mb : Str → Option Value} {qual : Str} {body : List Stmt} {scope : Scope} {g base : Heap} {L sc fa : Addr} {vs : List Value} {ns : List Int}
theorem st12 (c : LawCtx w p loose mean mg mb qual body scope g base L sc vs ns) {s : Shared} {Q : Flow → Shared → Prop} {E : Value → Shared → Prop} {o1 o2 o3 o4 o5 o6 o7 o8 o9 : Obj} {u : Str → Option Value} {chs : List (List Nat)} {cs ts : List Addr} {cl tyl : Addr} {n1 n2 : Nat} {wl : List (Addr × Obj)} (W : LawW chs cs ts cl tyl n1 n2 wl L) {al vl ow fl td : Addr} {ya yv yf : List Value} {n3 n4 n5 nt bd one : Nat} {tb t1 : Tok} {l : List Nat} {ps : Array Value} (T : LawT L td fl vl al cl tyl wl) (hone : one < chs.length) (hbd : bd < chs.length) (hlt : ∀ k ∈ l, k < chs.length) (hll : l.length ≤ 4) (htv : ∀ At : Addr → Obj → Prop, (∀ q ∈ wl, At q.1 q.2) → TvAt At ow (Str.ofString "T") (tyL ts l) (ts.getD (if l.isEmpty then bd else 0) 0)) {gv k1 k2 : Addr} {pv : Value} {tps : List Addr} {fit la : List Nat} (hnd : l.Nodup) (hyl : NatsAre yv l) (hyf : NatsAre yf fit) (hya : NatsAre ya la) (hfit : fit = l.filter fun k => sub chs one k) (hla : la.contains bd = sub chs one bd)
    (d1 : cdat o1 (some (.ref cl))) (d2 : cdat o2 (some (.int (one : Nat) t1))) (d4 : cdat o4 (some (.ref al))) (d5 : cdat o5 (some (.ref vl))) (d6 : cdat o6 (some (.ref fl)))
    (F : Fr g L s.heap (fun y => if y = Str.ofString "passed" then some pv else if y = Str.ofString "given" then some (.ref gv) else if y = Str.ofString "own" then some (.ref ow) else if y = Str.ofString "bound" then some (.int (bd : Nat) tb) else u y)) (N : News g L s.heap ((L + 1 + 1 + 1 + 1 + 1 + 1 + 1 + 1 + 1, o9) :: (L + 1 + 1 + 1 + 1 + 1 + 1 + 1 + 1, o8) :: (L + 1 + 1 + 1 + 1 + 1 + 1 + 1, o7) :: (L + 1 + 1 + 1 + 1 + 1 + 1, o6) :: (L + 1 + 1 + 1 + 1 + 1, o5) :: (L + 1 + 1 + 1 + 1, o4) :: (L + 1 + 1 + 1, o3) :: (L + 1 + 1, o2) :: (L + 1, o1) :: (652, tabObj ((#[] ++ #[rawInt ((403 : Nat) : Int), rawInt ((45 : Nat) : Int), Value.ref k1]) ++ #[rawInt ((404 : Nat) : Int), rawInt ((46 : Nat) : Int), Value.ref k2])) :: (td, listOf (tps.map Value.ref).toArray nt) :: (fl, listOf yf.toArray n5) :: (vl, listOf yv.toArray n4) :: (al, listOf ya.toArray n3) :: (cl, listOf (cs.map Value.ref).toArray n1) :: (tyl, listOf (ts.map Value.ref).toArray n2) :: wl))
    (next : ∀ h' tk due t2 fits, due = (okN chs one bd l).getD one → fits = (okN chs one bd l).isSome → Fr g L h' (fun y => if y = Str.ofString "due" then some (.int (due : Nat) t2) else if y = Str.ofString "fits" then some (.bool fits) else if y = Str.ofString "passed" then some pv else if y = Str.ofString "given" then some (.ref gv) else if y = Str.ofString "own" then some (.ref ow) else if y = Str.ofString "bound" then some (.int (bd : Nat) tb) else u y) → News g L h' ((L + 1 + 1 + 1 + 1 + 1 + 1 + 1 + 1 + 1, o9) :: (L + 1 + 1 + 1 + 1 + 1 + 1 + 1 + 1, o8) :: (L + 1 + 1 + 1 + 1 + 1 + 1 + 1, o7) :: (L + 1 + 1 + 1 + 1 + 1 + 1, o6) :: (L + 1 + 1 + 1 + 1 + 1, o5) :: (L + 1 + 1 + 1 + 1, o4) :: (L + 1 + 1 + 1, o3) :: (L + 1 + 1, o2) :: (L + 1, o1) :: (652, tabObj ((#[] ++ #[rawInt ((403 : Nat) : Int), rawInt ((45 : Nat) : Int), Value.ref k1]) ++ #[rawInt ((404 : Nat) : Int), rawInt ((46 : Nat) : Int), Value.ref k2])) :: (td, listOf (tps.map Value.ref).toArray nt) :: (fl, listOf yf.toArray n5) :: (vl, listOf yv.toArray n4) :: (al, listOf ya.toArray n3) :: (cl, listOf (cs.map Value.ref).toArray n1) :: (tyl, listOf (ts.map Value.ref).toArray n2) :: wl) → wpAny (model PG w) (callerA.deeper (lawEnv qual scope L fa)) (execs (body.drop 13) (lawEnv qual scope L fa)) Q E { s with heap := h', toks := tk }) :
    wpAny (model PG w) (callerA.deeper (lawEnv qual scope L fa)) (execs (body.drop 12) (lawEnv qual scope L fa)) Q E s := by
  obtain ⟨hf, K, X, TP, hl, hI, hlen, hC⟩ := c
  obtain ⟨name, params, dV, kV, doc, pm, an, cdv, ct, oc, od, osl, hf⟩ := hf
  have hf2 : (hd.heap_39 w.params).lookup 655 = some ⟨_, _, .func (fnOf _ _ _ _ _ _ _ _ _ _ _ _), _⟩ := rfl
  rw [hf2] at hf
  cases hf
  clear hf2
  dsimp only [List.drop, ifBody]
  have hcs := W.hcs
  have hts := W.hts
  have hlc := W.hlc
  have h652 := W.h652
  have hpos := W.hgd.pos
  have hfl : fit.length ≤ 4 := by rw [hfit]; exact Nat.le_trans (List.length_filter_le _ _) hll
  have hft : ∀ k ∈ fit, k < chs.length := fun k hk => hlt k (by rw [hfit] at hk; exact (List.mem_filter.mp hk).1)
  repeat ((fail_if_success (with_reducible show (if _ then (_ : Prop) else (_ : Prop)))); (first | (k_unfold; (try dsimp only)) | walk1 | (dsimp only; walk1)))
  by_cases hle : l = []
  · refine PySem.W.ite_neg (by simp [hle]) ?_
    iterate 1 (first | (k_unfold; (try dsimp only)) | walk1 | (dsimp only; walk1))
    repeat ((fail_if_success (with_reducible show wpAny _ _ (execs (_ :: _) _) _ _ _)); (first | (k_unfold; (try dsimp only)) | walk1 | dsimp only))
    have hok : okN chs one bd l = if sub chs one bd then some one else none := by rw [hle]; rfl
    refine next _ _ one _ (la.contains bd) ?_ ?_ (fr_swap (by decide) (by assumption)) (by first | assumption | exact news_drop1 (by assumption) | exact news_drop1 (news_drop1 (by assumption)) | exact news_drop1 (news_drop1 (news_drop1 (by assumption))) | exact news_drop1 (news_drop1 (news_drop1 (news_drop1 (by assumption)))))
    · rw [hok]; cases sub chs one bd <;> rfl
    · rw [hok, hla]; cases sub chs one bd <;> rfl
  · refine PySem.W.ite_pos (by simp [hle]) ?_
    repeat ((fail_if_success (with_reducible show wpAny _ _ (storeName _ _ _) _ _ _)); (first | (k_unfold; (try dsimp only)) | walk1 | (dsimp only; walk1)))
    have hok : okN chs one bd l = best chs fit := by
      rw [hfit, okN, if_neg (by simpa using hle)]
    have hfs : (!decide (List.map (fun k : Nat => ((k : Nat) : Int)) fit = [])) = (okN chs one bd l).isSome := by
      rw [hok]
      cases fit <;> simp [best]
    rw [hfs]
    repeat ((fail_if_success (with_reducible show (if _ then (_ : Prop) else (_ : Prop)))); (first | (k_unfold; (try dsimp only)) | walk1 | (dsimp only; walk1)))
    cases hb : okN chs one bd l with
    | none =>
      refine PySem.W.ite_neg (by simp) ?_
      repeat ((fail_if_success (with_reducible show wpAny _ _ (execs (_ :: _) _) _ _ _)); (first | (k_unfold; (try dsimp only)) | walk1 | dsimp only))
      exact next _ _ one _ _ (by rw [hb]; rfl) rfl (by assumption) (by first | assumption | exact news_drop1 (by assumption) | exact news_drop1 (news_drop1 (by assumption)) | exact news_drop1 (news_drop1 (news_drop1 (by assumption))) | exact news_drop1 (news_drop1 (news_drop1 (news_drop1 (by assumption)))))
    | some d =>
      refine PySem.W.ite_pos (by simp) ?_
      repeat ((fail_if_success (with_reducible show wpAny _ _ (eval (PySem.Expr.ListComp _ _ _ _) _) _ _ _)); (first | (k_unfold; (try dsimp only)) | walk1 | (dsimp only; walk1)))
      have hfne : fit ≠ [] := by
        intro e
        rw [hok, e] at hb
        cases hb
      rename Fr _ _ _ _ => F₀
      rename News _ _ _ _ => N₀
      k_dflt (refine comp_K1 (fun i => dueT chs fit (fit.getD i 0)) (fun i => yf.getD i .none) F₀ N₀ (by with_unfolding_all rfl) (by intro n; rfl) (by intro h; rfl) rfl (by decide) (by intro C K; rfl) ?_)
      repeat ((first | (with_reducible show wpAny _ _ _ _ _ _) | (with_reducible show PySem.W.Frag.In _ _ ∧ _)); (first | (k_unfold; (try dsimp only)) | walk1 | (dsimp only; walk1)))
      refine ⟨rfl, F₀, N₀, _, _, rfl, .inr ⟨_, by k_mem, rfl, _, rfl⟩, by rw [List.size_toArray, nats_len hyf]; unfold sizeLine; omega, ?_, ?_⟩
      · intro i v I oI C oC K oK D ys h tk E' hv hoK F₁ N₁
        have hv' : yf[i]? = some v := by simpa using hv
        obtain ⟨k, t, hk, rfl⟩ := nats_at hyf hv'
        have hkl := hft k (List.mem_of_getElem? hk)
        have hgk : fit.getD i 0 = k := by rw [List.getD_eq_getElem?_getD, hk]; rfl
        clear F₀ N₀
        repeat ((fail_if_success (with_reducible show wpAny _ _ (eval (PySem.Expr.ListComp _ _ _ _) _) _ _ _)); (first | (k_unfold; (try dsimp only)) | walk1 | (dsimp only; walk1)))
        rename Fr _ _ _ _ => F₀
        rename News _ _ _ _ => N₀
        k_dflt (refine comp_U1 (fun j => decide (lnL chs (fit.getD j 0) > lnL chs k)) (fun j => yf.getD j .none) F₀ N₀ (by with_unfolding_all rfl) (by decide) rfl (by decide) (by rfl) ?_)
        repeat ((first | (with_reducible show wpAny _ _ _ _ _ _) | (with_reducible show PySem.W.Frag.In _ _ ∧ _)); (first | (k_unfold; (try dsimp only)) | walk1 | (dsimp only; walk1)))
        refine ⟨rfl, F₀, N₀, _, _, .led (by k_mem), by rw [List.size_toArray, nats_len hyf]; unfold sizeLine; omega, ?_, ?_⟩
        · intro i' v' I' oI' C' oC' D' m₂ ys' h tk E₂ hi' hv2 hC hm F₂ N₂
          have hv'' : yf[i']? = some v' := by simpa using hv2
          obtain ⟨j, t', hj, rfl⟩ := nats_at hyf hv''
          have hjl := hft j (List.mem_of_getElem? hj)
          have hgj : fit.getD i' 0 = j := by rw [List.getD_eq_getElem?_getD, hj]; rfl
          clear F₀ N₀
          k_steps
          · rw [hgj]; exact decide_eq_true (by simp only [lnL]; omega)
          · exact Pure1.intro (getD_some hv'').symm (by assumption) (news_drop1 (news_drop1 (by assumption)))
          · rw [hgj]; exact decide_eq_false (by simp only [lnL]; omega)
          · exact Pure1.intro rfl (by assumption) (news_drop1 (news_drop1 (by assumption)))
        · intro D' h tk F₂ N₂ off'
          clear F₀ N₀
          have hie : (((List.range yf.toArray.size).filter fun j => decide (lnL chs (fit.getD j 0) > lnL chs k)).map fun j => yf.getD j .none).isEmpty = dueT chs fit (fit.getD i 0) := by
            rw [hgk]
            exact inner_empty (by rw [List.size_toArray, nats_len hyf]) (fun j => decide (lnL chs j > lnL chs k))
          k_steps
          · rw [← hie]; assumption
          · exact Pure1.intro (getD_some hv').symm (by assumption) (news_drop1 (news_drop1 (by assumption)))
          · rw [← hie]; assumption
          · exact Pure1.intro rfl (by assumption) (news_drop1 (news_drop1 (by assumption)))
      · intro D h tk F₁ N₁ hD
        clear F₀ N₀
        obtain ⟨d', r, hdr, hbd'⟩ := W.hgd.due_best hlc hone (fit := fit) (fun k hk => by
          rw [hfit] at hk
          have h9 := (List.mem_filter.mp hk).2
          rw [W.hgd.sub_eq hlc one (hlt k (List.mem_filter.mp hk).1)] at h9
          simpa using h9) hfne
        have hnr := nats_filter (n := yf.toArray.size) hyf (by rw [List.size_toArray, nats_len hyf]) (dueT chs fit)
        rw [hdr] at hnr
        obtain rfl : d' = d := by
          rw [hok, hbd'] at hb
          exact Option.some.inj hb
        generalize ((List.range yf.toArray.size).filter fun i => dueT chs fit (fit.getD i 0)).map (fun i => yf.getD i .none) = yr at hnr N₁
        cases hnr with
        | cons n9 t9 h9 =>
        have N₂ : News g L h ((D, listOf _ _) :: _) := N₁
        clear N₁
        repeat ((fail_if_success (with_reducible show wpAny _ _ (subscriptTail _ _ _ _) _ _ _)); (first | (k_unfold; (try dsimp only)) | walk1 | (dsimp only; walk1)))
        k_dflt (refine' item_nat (News.isList N₂ (.head _)) ?h0 ?h1 ?hz ?_ (by with_unfolding_all rfl))
        case h0 => exact Int.le_refl _
        case h1 => simp only [List.length_cons]; omega
        case hz =>
          have h10 := nats_len h9
          have h11 : (d' :: r).length ≤ fit.length := by rw [← hdr]; exact List.length_filter_le _ _
          simp only [List.length_cons] at *
          omega
        repeat ((fail_if_success (with_reducible show wpAny _ _ (execs (_ :: _) _) _ _ _)); (first | (k_unfold; (try dsimp only)) | walk1 | dsimp only))
        exact next _ _ d' _ _ (by rw [hb]; rfl) rfl (by assumption) (by first | assumption | exact news_drop1 (by assumption) | exact news_drop1 (news_drop1 (by assumption)) | exact news_drop1 (news_drop1 (news_drop1 (by assumption))) | exact news_drop1 (news_drop1 (news_drop1 (news_drop1 (by assumption)))))
end Mine

section
open PySem.Spec
namespace Mine
set_option maxRecDepth 100000
section
variable {w : World} {p : Program} {loose : List Str} {mean : ExcName → Option Value} {mg mb : Str → Option Value}
theorem eq_types {chs : List (List Nat)} {cs ts : List Addr} {i j : Nat}
    {dp un : Nat} {gd : Option (List Code)} {cn : Str} {cs' : Scope} {a : Addr} {ccd : Value} {cl : List (Str × Addr)} {outer : List Env} {A₀ : Around} {base h₀ : Heap} {L : Addr}
    {m : Str → Option Value} {news : List (Addr × Obj)} {s : Shared} {Q E : Value → Shared → Prop}
    (B : Below A₀ base outer h₀) (F : Fr h₀ L s.heap m) (X : (hd.heap_39 w.params).In h₀) (N : News h₀ L s.heap news) (T : Top p loose mean mg mb h₀) (hk : cs'.kind = .function)
    (hw : Wd (hAt s.heap) chs cs) (hts : TsAt (hAt s.heap) chs cs ts) (hi : i < chs.length) (hj : j < chs.length) (hdp : dp + 4 < recursionLimit) (hu : un + 80 < cLine)
    (hret : ∀ h' tk', Fr h₀ L h' m → News h₀ L h' news → Q (.bool (i == j)) { s with heap := h', toks := tk' }) :
    wpAny (model PG w) (ktrTop dp un gd cn cs' L a ccd cl outer) (compareOp .Eq (.ref (ts.getD i 0)) (.ref (ts.getD j 0))) Q E s := by
  obtain ⟨d, t, h1, k1, h2, k2, n1, n2, e1, e2, e3⟩ := hts i hi
  obtain ⟨d', t', h1', k1', h2', k2', n1', n2', e1', e2', e3'⟩ := hts j hj
  have I : InstAt s.heap (ts.getD i 0) (instObj 312 d) 312 (some (dictOf [⟨h1, .str (Str.ofString "type") k1, .ref (cs.getD i 0)⟩, ⟨h2, .str (Str.ofString "args") k2, .ref t⟩] n1)) := ⟨e1, rfl, rfl, e2⟩
  have J : InstAt s.heap (ts.getD j 0) (instObj 312 d') 312 (some (dictOf [⟨h1', .str (Str.ofString "type") k1', .ref (cs.getD j 0)⟩, ⟨h2', .str (Str.ofString "args") k2', .ref t'⟩] n1')) := ⟨e1', rfl, rfl, e2'⟩
  refine cmp_ofEq (cmp_K (K := hd.heap_39 w.params) (C := 312) (f := 302) (by show un < cLine; omega) F X I J.type (by k_is) (by k_is) (by k_is) ?_)
  refine Does.use0 (eq_inst_does (x := ts.getD i 0) (y := ts.getD j 0) hi hj) B F X N T hk (fun g G => ⟨hw.lift G, (hts i hi).lift G, (hts j hj).lift G⟩) hdp hu ?_
  rintro _ _ h' tk' F' N' G - ⟨rfl, rfl⟩
  exact hret h' tk' F' N'
end
end Mine
end
local macro_rules | `(tactic| walk_at "compareOp Eq ref ref") => `(tactic| (k_here; (with_reducible show wpAny _ _ (compareOp CmpOp.Eq (Value.ref (List.getD _ _ _)) (Value.ref (List.getD _ _ _))) _ _ _); k_dflt (refine' Mine.eq_types ?B ?F ?X ?N ?T ?hk ?hw ?hts ?hi ?hj ?hd ?hu ?_; (case B => k_asm); (case F => k_asm); (case X => k_asm); (case N => k_asm); (case T => k_asm); (case hk => first | exact rfl | assumption); (case hw => exact Mine.LawW.wd (by assumption) (by assumption) (by intro q9 h9; repeat (first | exact h9 | refine List.Mem.tail _ ?_ | refine List.mem_append_right _ ?_)) (fun _ _ e9 => e9)); (case hts => exact Mine.LawW.tsat (by assumption) (by assumption) (by intro q9 h9; repeat (first | exact h9 | refine List.Mem.tail _ ?_ | refine List.mem_append_right _ ?_)) (fun _ _ e9 => e9)); (case hi => assumption); (case hj => assumption); (case hd => k_room); (case hu => k_units)); (intro h' tk' F' N'); (try k_sweep)))
section
open PySem.Spec
namespace Mine
set_option maxRecDepth 100000
section
variable {prog : Program} {w : World} {A : Around} {E : Value → Shared → Prop} {s : Shared} {h₀ : Heap} {L : Addr} {m : Str → Option Value} {env : Env} {news : List (Addr × Obj)}
theorem PureT.intro {s₁ : Shared} {all : List (Addr × Obj)} {y v : Value} {h' : Heap} {tk : Nat} (e : v = y) (F : Fr h₀ L h' m) (N : News h₀ L h' all) : PureT h₀ L m s₁ all y v { s₁ with heap := h', toks := tk } := ⟨e, h', tk, rfl, F, N⟩
def PairsAt (its : Array Value) (va vb : Nat → Value) (news : List (Addr × Obj)) : Prop := ∀ i v, its[i]? = some v → ∃ T, v = .ref T ∧ (T, ({ cls := .type "tuple", data := .seq #[va i, vb i] } : Obj)) ∈ news
theorem comp_T0 {elt iter : Expr} {a b : Str} {pa pb tp : Pos} {kk : Nat} {scope : Scope} {cl : List (Str × Addr)} {pos : Pos} {Q : Value → Shared → Prop} (f va vb : Nat → Value) (_F₀ : Fr h₀ L s.heap m) (_N₀ : News h₀ L s.heap news)
    (hclos : closureFor scope env = pure cl) (hcell : ∀ y ∈ scope.names, y.2 ≠ .cell) (hkind : scope.kind = .function)
    (hnames : ∀ y ∈ scope.names, y.2 = .local → scope.names.lookup y.1 = some .local) (hxa : scope.names.lookup a = some .local) (hxb : scope.names.lookup b = some .local) (hab : ¬ a = b)
    (hmain : wpAny (model prog w) A (eval iter env) (fun xv s₁ => A.handled = none ∧ Fr h₀ L s₁.heap m ∧ News h₀ L s₁.heap news ∧ ∃ ax its, xv = .ref ax ∧ LCg.SrcAt h₀ ax its news ∧ its.size ≤ sizeLine ∧ PairsAt its va vb news ∧
      (∀ i I oI C oC D m₂ ys h tk (E' : Value → Shared → Prop), i < its.size → LCg.NsObj oC m₂ → m₂ a = some (va i) → m₂ b = some (vb i) → Fr h₀ L h m → News h₀ L h ((I, oI) :: (C, oC) :: (D, LCg.lst ys) :: news) →
        wpAny (model prog w) A (eval elt (compEnvC scope cl C env)) (PureT h₀ L m { s₁ with heap := h, toks := tk } ((I, oI) :: (C, oC) :: (D, LCg.lst ys) :: news) (f i)) E' { s₁ with heap := h, toks := tk }) ∧
      (∀ D h tk, Fr h₀ L h m → News h₀ L h ((D, LCg.lst ((List.range its.size).map f)) :: news) → (∀ p ∈ news, p.1 ≠ D) → Q (.ref D) { s₁ with heap := h, toks := tk })) E s)
    (hs : ∀ x, foldedSetIterable iter env x = pure x := by intro _; rfl) :
    wpAny (model prog w) A (eval (.ListComp elt [⟨.Tuple [.Name a pa, .Name b pb] kk tp, iter, [], 0⟩] scope pos) env) Q E s := by
  refine comp_T (h₀ := h₀) (L := L) (m := m) (fun _ => true) f va vb hclos hcell hkind hnames hxa hxb hab (wpAny_mono hmain (fun xv s₁ q => ?_) fun _ _ e => e) hs
  obtain ⟨hh, F, N, ax, its, rfl, S, hsz, tup, turn, fin⟩ := q
  refine ⟨ax, its, news, rfl, hh, F, N, S, hsz, tup, ?_, ?_⟩
  · intro i I oI C oC D m₂ ys h tk E' hi hC ha hb F₁ N₁
    rw [List.forIn_nil]
    refine wpAny_pure ?_
    rw [if_pos rfl]
    exact wpAny_mono (turn i I oI C oC D m₂ ys h tk E' hi hC ha hb F₁ N₁) (fun y s₂ q => ⟨rfl, q⟩) fun _ _ e => e
  · intro D h tk F₁ N₁ hD
    rw [List.filter_eq_self.mpr (fun _ _ => rfl)] at N₁
    exact fin D h tk F₁ N₁ hD
/-- a test that lets none pass -/
theorem comp_T1 {ct elt iter : Expr} {a b : Str} {pa pb tp : Pos} {kk : Nat} {scope : Scope} {cl : List (Str × Addr)} {pos : Pos} {Q : Value → Shared → Prop} (va vb : Nat → Value) (_F₀ : Fr h₀ L s.heap m) (_N₀ : News h₀ L s.heap news)
    (hclos : closureFor scope env = pure cl) (hcell : ∀ y ∈ scope.names, y.2 ≠ .cell) (hkind : scope.kind = .function)
    (hnames : ∀ y ∈ scope.names, y.2 = .local → scope.names.lookup y.1 = some .local) (hxa : scope.names.lookup a = some .local) (hxb : scope.names.lookup b = some .local) (hab : ¬ a = b)
    (hmain : wpAny (model prog w) A (eval iter env) (fun xv s₁ => A.handled = none ∧ Fr h₀ L s₁.heap m ∧ News h₀ L s₁.heap news ∧ ∃ ax its, xv = .ref ax ∧ LCg.SrcAt h₀ ax its news ∧ its.size ≤ sizeLine ∧ PairsAt its va vb news ∧
      (∀ i I oI C oC D m₂ ys h tk (E' : Value → Shared → Prop), i < its.size → LCg.NsObj oC m₂ → m₂ a = some (va i) → m₂ b = some (vb i) → Fr h₀ L h m → News h₀ L h ((I, oI) :: (C, oC) :: (D, LCg.lst ys) :: news) →
        wpAny (model prog w) A (isTrue ct (compEnvC scope cl C env) (eval ct (compEnvC scope cl C env))) (fun ok s' => ok = false ∧ PureT h₀ L m { s₁ with heap := h, toks := tk } ((I, oI) :: (C, oC) :: (D, LCg.lst ys) :: news) .none .none s') E' { s₁ with heap := h, toks := tk }) ∧
      (∀ D h tk, Fr h₀ L h m → News h₀ L h ((D, LCg.lst []) :: news) → (∀ p ∈ news, p.1 ≠ D) → Q (.ref D) { s₁ with heap := h, toks := tk })) E s)
    (hs : ∀ x, foldedSetIterable iter env x = pure x := by intro _; rfl) :
    wpAny (model prog w) A (eval (.ListComp elt [⟨.Tuple [.Name a pa, .Name b pb] kk tp, iter, [ct], 0⟩] scope pos) env) Q E s := by
  refine comp_T (h₀ := h₀) (L := L) (m := m) (fun _ => false) (fun _ => .none) va vb hclos hcell hkind hnames hxa hxb hab (wpAny_mono hmain (fun xv s₁ q => ?_) fun _ _ e => e) hs
  obtain ⟨hh, F, N, ax, its, rfl, S, hsz, tup, turn, fin⟩ := q
  refine ⟨ax, its, news, rfl, hh, F, N, S, hsz, tup, ?_, ?_⟩
  · intro i I oI C oC D m₂ ys h tk E' hi hC ha hb F₁ N₁
    simp only [List.forIn_cons, List.forIn_nil, if_true, bind_assoc]
    refine wpAny_bind (wpAny_mono (turn i I oI C oC D m₂ ys h tk E' hi hC ha hb F₁ N₁) (fun ok s₂ q => ?_) fun _ _ e => e)
    obtain ⟨rfl, q⟩ := q
    refine wpAny_pure ?_
    simp only [Bool.false_eq_true, if_false]
    exact ⟨trivial, q⟩
  · intro D h tk F₁ N₁ hD
    rw [List.filter_eq_nil_iff.mpr (fun _ _ => Bool.false_ne_true)] at N₁
    exact fin D h tk F₁ N₁ hD
theorem ne_T {a b : Addr} {x : Str} {t t' : Tok} {Q : Value → Shared → Prop} (ha : s.heap.IsList a #[.str x t]) (hb : s.heap.IsList b #[.str x t']) (hu : A.units < cLine) (h : Q (.bool false) s) : wpAny (model prog w) A (compareOp .NotEq (.ref a) (.ref b)) Q E s := by
  refine SeqAt.RcNeAt.lists (e := fun _ => true) ha hb rfl hu (fun j h1 h2 => ?_) prog w E Q h
  have : j = 0 := by simp at h1; omega
  subst this
  have e := SeqAt.EqAt.str_str (A := A.in1) (s := s) x t x t'
  rw [show (x == x) = true by simp] at e
  exact e
end
end Mine
end
local macro_rules | `(tactic| walk_at "compareOp NotEq ref") => `(tactic| (k_here; (with_reducible show wpAny _ _ (compareOp CmpOp.NotEq (Value.ref _) (Value.ref _)) _ _ _); k_dflt (refine' Mine.ne_T ?a ?b ?u ?_; (case b => (refine' News.isList ?g ?i; (case g => k_asm); (case i => k_mem))); (case a => (refine' News.isList ?g ?i; (case g => k_asm); (case i => k_mem))); (case u => k_units); k_whole)))
namespace Mine
set_option maxRecDepth 100000
set_option maxHeartbeats 8000000
variable {w : World} {p : Program} {loose : List Str} {mean : ExcName → Option Value} {mg mb : Str → Option Value} {qual : Str} {body : List Stmt} {scope : Scope} {g base : Heap} {L sc fa : Addr} {vs : List Value} {ns : List Int}
theorem st13 (c : LawCtx w p loose mean mg mb qual body scope g base L sc vs ns) {s : Shared} {Q : Flow → Shared → Prop} {E : Value → Shared → Prop} {o1 o2 o3 o4 o5 o6 o7 o8 o9 : Obj} {u : Str → Option Value} {chs : List (List Nat)} {cs ts : List Addr} {cl tyl : Addr} {n1 n2 : Nat} {wl : List (Addr × Obj)} (W : LawW chs cs ts cl tyl n1 n2 wl L) {al vl ow fl td : Addr} {ya yv yf : List Value} {n3 n4 n5 nt bd one : Nat} {tb t1 : Tok} {l : List Nat} {ps : Array Value} (T : LawT L td fl vl al cl tyl wl) (hone : one < chs.length) (hbd : bd < chs.length) (hlt : ∀ k ∈ l, k < chs.length) (hll : l.length ≤ 4) (htv : ∀ At : Addr → Obj → Prop, (∀ q ∈ wl, At q.1 q.2) → TvAt At ow (Str.ofString "T") (tyL ts l) (ts.getD (if l.isEmpty then bd else 0) 0)) {gv k1 k2 : Addr} {pv : Value} {tps : List Addr} {due : Nat} {t2 : Tok} {fits : Bool} (hdl : due < chs.length) (hgv : gv = ts.getD due 0) (hft : fits = tps.isEmpty) (htl : tps.length ≤ 1) (htp : ∀ tp ∈ tps, ∃ t, (tp, tup2 (.ref (ts.getD one 0)) (Str.ofString "T") t) ∈ wl)
    (d2 : cdat o2 (some (.int (one : Nat) t1))) (d3 : cdat o3 (some (.ref tyl))) (d9 : cdat o9 (some (.ref td)))
    (F : Fr g L s.heap (fun y => if y = Str.ofString "due" then some (.int (due : Nat) t2) else if y = Str.ofString "fits" then some (.bool fits) else if y = Str.ofString "passed" then some pv else if y = Str.ofString "given" then some (.ref gv) else if y = Str.ofString "own" then some (.ref ow) else if y = Str.ofString "bound" then some (.int (bd : Nat) tb) else u y)) (N : News g L s.heap ((L + 1 + 1 + 1 + 1 + 1 + 1 + 1 + 1 + 1, o9) :: (L + 1 + 1 + 1 + 1 + 1 + 1 + 1 + 1, o8) :: (L + 1 + 1 + 1 + 1 + 1 + 1 + 1, o7) :: (L + 1 + 1 + 1 + 1 + 1 + 1, o6) :: (L + 1 + 1 + 1 + 1 + 1, o5) :: (L + 1 + 1 + 1 + 1, o4) :: (L + 1 + 1 + 1, o3) :: (L + 1 + 1, o2) :: (L + 1, o1) :: (652, tabObj ((#[] ++ #[rawInt ((403 : Nat) : Int), rawInt ((45 : Nat) : Int), Value.ref k1]) ++ #[rawInt ((404 : Nat) : Int), rawInt ((46 : Nat) : Int), Value.ref k2])) :: (td, listOf (tps.map Value.ref).toArray nt) :: (fl, listOf yf.toArray n5) :: (vl, listOf yv.toArray n4) :: (al, listOf ya.toArray n3) :: (cl, listOf (cs.map Value.ref).toArray n1) :: (tyl, listOf (ts.map Value.ref).toArray n2) :: wl))
    (next : ∀ h' tk, Fr g L h' (fun y => if y = Str.ofString "due" then some (.int (due : Nat) t2) else if y = Str.ofString "fits" then some (.bool fits) else if y = Str.ofString "passed" then some pv else if y = Str.ofString "given" then some (.ref gv) else if y = Str.ofString "own" then some (.ref ow) else if y = Str.ofString "bound" then some (.int (bd : Nat) tb) else u y) → News g L h' ((L + 1 + 1 + 1 + 1 + 1 + 1 + 1 + 1 + 1, o9) :: (L + 1 + 1 + 1 + 1 + 1 + 1 + 1 + 1, o8) :: (L + 1 + 1 + 1 + 1 + 1 + 1 + 1, o7) :: (L + 1 + 1 + 1 + 1 + 1 + 1, o6) :: (L + 1 + 1 + 1 + 1 + 1, o5) :: (L + 1 + 1 + 1 + 1, o4) :: (L + 1 + 1 + 1, o3) :: (L + 1 + 1, o2) :: (L + 1, o1) :: (652, tabObj ((#[] ++ #[rawInt ((403 : Nat) : Int), rawInt ((45 : Nat) : Int), Value.ref k1]) ++ #[rawInt ((404 : Nat) : Int), rawInt ((46 : Nat) : Int), Value.ref k2])) :: (td, listOf (tps.map Value.ref).toArray nt) :: (fl, listOf yf.toArray n5) :: (vl, listOf yv.toArray n4) :: (al, listOf ya.toArray n3) :: (cl, listOf (cs.map Value.ref).toArray n1) :: (tyl, listOf (ts.map Value.ref).toArray n2) :: wl) → wpAny (model PG w) (callerA.deeper (lawEnv qual scope L fa)) (execs (body.drop 14) (lawEnv qual scope L fa)) Q E { s with heap := h', toks := tk }) :
    wpAny (model PG w) (callerA.deeper (lawEnv qual scope L fa)) (execs (body.drop 13) (lawEnv qual scope L fa)) Q E s := by
  obtain ⟨hf, K, X, TP, hl, hI, hlen, hC⟩ := c
  obtain ⟨name, params, dV, kV, doc, pm, an, cdv, ct, oc, od, osl, hf⟩ := hf
  have hf2 : (hd.heap_39 w.params).lookup 655 = some ⟨_, _, .func (fnOf _ _ _ _ _ _ _ _ _ _ _ _), _⟩ := rfl
  rw [hf2] at hf
  cases hf
  clear hf2
  dsimp only [List.drop, ifBody]
  have hcs := W.hcs
  have hts := W.hts
  have hlc := W.hlc
  have h652 := W.h652
  have hpos := W.hgd.pos
  subst hgv
  repeat ((fail_if_success (with_reducible show wpAny _ _ (truthy _) _ _ _)); (first | (k_unfold; (try dsimp only)) | walk1 | (dsimp only; walk1)))
  rw [beq_self_eq_true due]
  repeat ((fail_if_success (with_reducible show wpAny _ _ (eval (PySem.Expr.ListComp _ _ _ _) _) _ _ _)); (first | (k_unfold; (try dsimp only)) | walk1 | (dsimp only; walk1)))
  rcases tps with _ | ⟨tp, _ | ⟨_, _⟩⟩
  · obtain rfl : fits = true := hft
    rename Fr _ _ _ _ => F₀
    rename News _ _ _ _ => N₀
    k_dflt (refine comp_T0 (fun _ => Value.none) (fun _ => Value.ref (ts.getD one 0)) (fun _ => Value.none) F₀ N₀ (by with_unfolding_all rfl) (by decide) rfl (by decide) (by rfl) (by rfl) (by decide) ?_)
    repeat ((first | (with_reducible show wpAny _ _ _ _ _ _) | (with_reducible show PySem.W.Frag.In _ _ ∧ _)); (first | (k_unfold; (try dsimp only)) | walk1 | (dsimp only; walk1)))
    refine ⟨rfl, F₀, N₀, _, _, rfl, .inr ⟨_, by k_mem, rfl, _, rfl⟩, by simp [sizeLine], fun i v hv => absurd hv (by simp), ?_, ?_⟩
    · intro i I oI C oC D m₂ ys h tk E' hi hC ha hb F₁ N₁
      clear F₀ N₀
      k_steps
      exact PureT.intro rfl (by assumption) (by assumption)
    · intro D h tk F₁ N₁ hD
      clear F₀ N₀
      have N₂ : News g L h ((D, listOf #[] 0) :: _) := N₁
      clear N₁
      repeat ((fail_if_success (with_reducible show (if _ then (_ : Prop) else (_ : Prop)))); (first | (k_unfold; (try dsimp only)) | walk1 | (dsimp only; walk1)))
      refine PySem.W.ite_pos rfl ?_
      repeat ((fail_if_success (with_reducible show wpAny _ _ (eval (PySem.Expr.ListComp _ _ _ _) _) _ _ _)); (first | (k_unfold; (try dsimp only)) | walk1 | (dsimp only; walk1)))
      rename Fr _ _ _ _ => F₀
      rename News _ _ _ _ => N₀
      k_dflt (refine comp_T1 (fun _ => Value.ref (ts.getD one 0)) (fun _ => Value.none) F₀ N₀ (by with_unfolding_all rfl) (by decide) rfl (by decide) (by rfl) (by rfl) (by decide) ?_)
      repeat ((first | (with_reducible show wpAny _ _ _ _ _ _) | (with_reducible show PySem.W.Frag.In _ _ ∧ _)); (first | (k_unfold; (try dsimp only)) | walk1 | (dsimp only; walk1)))
      refine ⟨rfl, F₀, N₀, _, _, rfl, .inr ⟨_, by k_mem, rfl, _, rfl⟩, by simp [sizeLine], fun i v hv => absurd hv (by simp), ?_, ?_⟩
      · intro i I oI C oC D m₂ ys h tk E' hi hC ha hb F₁ N₁
        clear F₀ N₀
        repeat ((fail_if_success (with_reducible show wpAny _ _ (truthy _) _ _ _)); (first | (k_unfold; (try dsimp only)) | walk1 | (dsimp only; walk1)))
        rw [beq_self_eq_true one]
        k_steps
        exact PureT.intro rfl (by assumption) (by assumption)
      · intro D h tk F₁ N₁ hD
        clear F₀ N₀
        have N₂ : News g L h ((D, listOf #[] 0) :: _) := N₁
        clear N₁
        repeat ((fail_if_success (with_reducible show wpAny _ _ (execs (_ :: _) _) _ _ _)); (first | (k_unfold; (try dsimp only)) | walk1 | dsimp only))
        exact next _ _ (by assumption) (by first | assumption | exact news_drop1 (by assumption) | exact news_drop1 (news_drop1 (by assumption)) | exact news_drop1 (news_drop1 (news_drop1 (by assumption))) | exact news_drop1 (news_drop1 (news_drop1 (news_drop1 (by assumption)))))
  · obtain ⟨tt, htt⟩ := htp tp (.head _)
    obtain rfl : fits = false := hft
    rename Fr _ _ _ _ => F₀
    rename News _ _ _ _ => N₀
    k_dflt (refine comp_T0 (fun _ => (Value.str (Str.ofString "T") tt)) (fun _ => Value.ref (ts.getD one 0)) (fun _ => (Value.str (Str.ofString "T") tt)) F₀ N₀ (by with_unfolding_all rfl) (by decide) rfl (by decide) (by rfl) (by rfl) (by decide) ?_)
    repeat ((first | (with_reducible show wpAny _ _ _ _ _ _) | (with_reducible show PySem.W.Frag.In _ _ ∧ _)); (first | (k_unfold; (try dsimp only)) | walk1 | (dsimp only; walk1)))
    refine ⟨rfl, F₀, N₀, _, _, rfl, .inr ⟨_, by k_mem, rfl, _, rfl⟩, by simp [sizeLine], (fun i v hv => by
        have h0 : i = 0 := by
          rcases Nat.eq_zero_or_pos i with h | h
          · exact h
          · rw [Array.getElem?_eq_none (by simp; omega)] at hv; cases hv
        subst h0
        exact ⟨tp, (Option.some.inj hv).symm, by repeat (first | exact htt | refine .tail _ ?_)⟩), ?_, ?_⟩
    · intro i I oI C oC D m₂ ys h tk E' hi hC ha hb F₁ N₁
      clear F₀ N₀
      k_steps
      exact PureT.intro rfl (by assumption) (by assumption)
    · intro D h tk F₁ N₁ hD
      clear F₀ N₀
      have N₂ : News g L h ((D, listOf #[Value.str (Str.ofString "T") tt] 1) :: _) := N₁
      clear N₁
      repeat ((fail_if_success (with_reducible show (if _ then (_ : Prop) else (_ : Prop)))); (first | (k_unfold; (try dsimp only)) | walk1 | (dsimp only; walk1)))
      refine PySem.W.ite_neg Bool.false_ne_true ?_
      repeat ((fail_if_success (with_reducible show wpAny _ _ (eval (PySem.Expr.ListComp _ _ _ _) _) _ _ _)); (first | (k_unfold; (try dsimp only)) | walk1 | (dsimp only; walk1)))
      rename Fr _ _ _ _ => F₀
      rename News _ _ _ _ => N₀
      k_dflt (refine comp_T1 (fun _ => Value.ref (ts.getD one 0)) (fun _ => (Value.str (Str.ofString "T") tt)) F₀ N₀ (by with_unfolding_all rfl) (by decide) rfl (by decide) (by rfl) (by rfl) (by decide) ?_)
      repeat ((first | (with_reducible show wpAny _ _ _ _ _ _) | (with_reducible show PySem.W.Frag.In _ _ ∧ _)); (first | (k_unfold; (try dsimp only)) | walk1 | (dsimp only; walk1)))
      refine ⟨rfl, F₀, N₀, _, _, rfl, .inr ⟨_, by k_mem, rfl, _, rfl⟩, by simp [sizeLine], (fun i v hv => by
        have h0 : i = 0 := by
          rcases Nat.eq_zero_or_pos i with h | h
          · exact h
          · rw [Array.getElem?_eq_none (by simp; omega)] at hv; cases hv
        subst h0
        exact ⟨tp, (Option.some.inj hv).symm, by repeat (first | exact htt | refine .tail _ ?_)⟩), ?_, ?_⟩
      · intro i I oI C oC D m₂ ys h tk E' hi hC ha hb F₁ N₁
        clear F₀ N₀
        repeat ((fail_if_success (with_reducible show wpAny _ _ (truthy _) _ _ _)); (first | (k_unfold; (try dsimp only)) | walk1 | (dsimp only; walk1)))
        rw [beq_self_eq_true one]
        k_steps
        exact PureT.intro rfl (by assumption) (by assumption)
      · intro D h tk F₁ N₁ hD
        clear F₀ N₀
        have N₂ : News g L h ((D, listOf #[] 0) :: _) := N₁
        clear N₁
        repeat ((fail_if_success (with_reducible show wpAny _ _ (execs (_ :: _) _) _ _ _)); (first | (k_unfold; (try dsimp only)) | walk1 | dsimp only))
        exact next _ _ (by assumption) (by first | assumption | exact news_drop1 (by assumption) | exact news_drop1 (news_drop1 (by assumption)) | exact news_drop1 (news_drop1 (news_drop1 (by assumption))) | exact news_drop1 (news_drop1 (news_drop1 (news_drop1 (by assumption)))))
  · exact absurd htl (by simp)
end Mine

namespace Mine
set_option maxRecDepth 100000
set_option maxHeartbeats 8000000
variable {w : World} {p : Program} {loose : List Str} {mean : ExcName → Option Value} {mg mb : Str → Option Value} {qual : Str} {body : List Stmt} {scope : Scope} {g base : Heap} {L sc fa : Addr} {vs : List Value} {ns : List Int}
theorem st14 (c : LawCtx w p loose mean mg mb qual body scope g base L sc vs ns) {s : Shared} {Q : Flow → Shared → Prop} {E : Value → Shared → Prop} {o1 o2 o3 o4 o5 o6 o7 o8 o9 : Obj} {u : Str → Option Value} {chs : List (List Nat)} {cs ts : List Addr} {cl tyl : Addr} {n1 n2 : Nat} {wl : List (Addr × Obj)} (W : LawW chs cs ts cl tyl n1 n2 wl L) {al vl ow fl td : Addr} {ya yv yf : List Value} {n3 n4 n5 nt bd : Nat} {tb : Tok} {gv k1 k2 : Addr} {pv : Value} {tps : List Addr} {due : Nat} {t2 : Tok} {fits : Bool} (hdl : due < chs.length) (hpf : (pv = .ref (ts.getD due 0) ∧ fits = true) ∨ (pv = .none ∧ fits = false))
    (d3 : cdat o3 (some (.ref tyl)))
    (F : Fr g L s.heap (fun y => if y = Str.ofString "due" then some (.int (due : Nat) t2) else if y = Str.ofString "fits" then some (.bool fits) else if y = Str.ofString "passed" then some pv else if y = Str.ofString "given" then some (.ref gv) else if y = Str.ofString "own" then some (.ref ow) else if y = Str.ofString "bound" then some (.int (bd : Nat) tb) else u y)) (N : News g L s.heap ((L + 1 + 1 + 1 + 1 + 1 + 1 + 1 + 1 + 1, o9) :: (L + 1 + 1 + 1 + 1 + 1 + 1 + 1 + 1, o8) :: (L + 1 + 1 + 1 + 1 + 1 + 1 + 1, o7) :: (L + 1 + 1 + 1 + 1 + 1 + 1, o6) :: (L + 1 + 1 + 1 + 1 + 1, o5) :: (L + 1 + 1 + 1 + 1, o4) :: (L + 1 + 1 + 1, o3) :: (L + 1 + 1, o2) :: (L + 1, o1) :: (652, tabObj ((#[] ++ #[rawInt ((403 : Nat) : Int), rawInt ((45 : Nat) : Int), Value.ref k1]) ++ #[rawInt ((404 : Nat) : Int), rawInt ((46 : Nat) : Int), Value.ref k2])) :: (td, listOf (tps.map Value.ref).toArray nt) :: (fl, listOf yf.toArray n5) :: (vl, listOf yv.toArray n4) :: (al, listOf ya.toArray n3) :: (cl, listOf (cs.map Value.ref).toArray n1) :: (tyl, listOf (ts.map Value.ref).toArray n2) :: wl))
    (next : ∀ h' tk, Fr g L h' (fun y => if y = Str.ofString "due" then some (.int (due : Nat) t2) else if y = Str.ofString "fits" then some (.bool fits) else if y = Str.ofString "passed" then some pv else if y = Str.ofString "given" then some (.ref gv) else if y = Str.ofString "own" then some (.ref ow) else if y = Str.ofString "bound" then some (.int (bd : Nat) tb) else u y) → News g L h' ((L + 1 + 1 + 1 + 1 + 1 + 1 + 1 + 1 + 1, o9) :: (L + 1 + 1 + 1 + 1 + 1 + 1 + 1 + 1, o8) :: (L + 1 + 1 + 1 + 1 + 1 + 1 + 1, o7) :: (L + 1 + 1 + 1 + 1 + 1 + 1, o6) :: (L + 1 + 1 + 1 + 1 + 1, o5) :: (L + 1 + 1 + 1 + 1, o4) :: (L + 1 + 1 + 1, o3) :: (L + 1 + 1, o2) :: (L + 1, o1) :: (652, tabObj ((#[] ++ #[rawInt ((403 : Nat) : Int), rawInt ((45 : Nat) : Int), Value.ref k1]) ++ #[rawInt ((404 : Nat) : Int), rawInt ((46 : Nat) : Int), Value.ref k2])) :: (td, listOf (tps.map Value.ref).toArray nt) :: (fl, listOf yf.toArray n5) :: (vl, listOf yv.toArray n4) :: (al, listOf ya.toArray n3) :: (cl, listOf (cs.map Value.ref).toArray n1) :: (tyl, listOf (ts.map Value.ref).toArray n2) :: wl) → wpAny (model PG w) (callerA.deeper (lawEnv qual scope L fa)) (execs (body.drop 15) (lawEnv qual scope L fa)) Q E { s with heap := h', toks := tk }) :
    wpAny (model PG w) (callerA.deeper (lawEnv qual scope L fa)) (execs (body.drop 14) (lawEnv qual scope L fa)) Q E s := by
  obtain ⟨hf, K, X, TP, hl, hI, hlen, hC⟩ := c
  obtain ⟨name, params, dV, kV, doc, pm, an, cdv, ct, oc, od, osl, hf⟩ := hf
  have hf2 : (hd.heap_39 w.params).lookup 655 = some ⟨_, _, .func (fnOf _ _ _ _ _ _ _ _ _ _ _ _), _⟩ := rfl
  rw [hf2] at hf
  cases hf
  clear hf2
  dsimp only [List.drop, ifBody]
  have hcs := W.hcs
  have hts := W.hts
  have hlc := W.hlc
  have h652 := W.h652
  have hpos := W.hgd.pos
  rcases hpf with ⟨rfl, rfl⟩ | ⟨rfl, rfl⟩
  · repeat ((fail_if_success (with_reducible show wpAny _ _ (compareOp CmpOp.Eq (Value.ref _) _) _ _ _)); (first | (k_unfold; (try dsimp only)) | walk1 | (dsimp only; walk1)))
    repeat ((fail_if_success (with_reducible show wpAny _ _ (truthy _) _ _ _)); (first | (k_unfold; (try dsimp only)) | walk1 | (dsimp only; walk1)))
    rw [beq_self_eq_true due]
    repeat ((fail_if_success (with_reducible show wpAny _ _ (execs (_ :: _) _) _ _ _)); (first | (k_unfold; (try dsimp only)) | walk1 | dsimp only))
    exact next _ _ (by assumption) (by first | assumption | exact news_drop1 (by assumption) | exact news_drop1 (news_drop1 (by assumption)) | exact news_drop1 (news_drop1 (news_drop1 (by assumption))) | exact news_drop1 (news_drop1 (news_drop1 (news_drop1 (by assumption)))))
  · iterate 1 (first | (k_unfold; (try dsimp only)) | walk1 | (dsimp only; walk1))
    repeat ((fail_if_success (with_reducible show wpAny _ _ (execs (_ :: _) _) _ _ _)); (first | (k_unfold; (try dsimp only)) | walk1 | dsimp only))
    exact next _ _ (by assumption) (by first | assumption | exact news_drop1 (by assumption) | exact news_drop1 (news_drop1 (by assumption)) | exact news_drop1 (news_drop1 (news_drop1 (by assumption))) | exact news_drop1 (news_drop1 (news_drop1 (news_drop1 (by assumption)))))
end Mine

section
open PySem.Spec
namespace Mine
set_option maxRecDepth 100000
set_option maxHeartbeats 4000000
section
variable {prog : Program} {w : World} {A : Around} {E : Value → Shared → Prop} {s : Shared} {h₀ : Heap} {L : Addr} {m : Str → Option Value} {env : Env} {news : List (Addr × Obj)}
/-- a comprehension over a list of the ledger from its end -/
theorem comp_rev {elt iter : Expr} {x : Str} {px : Pos} {scope : Scope} {cl : List (Str × Addr)} {pos : Pos} {Q : Value → Shared → Prop} (f : Nat → Value) (_F₀ : Fr h₀ L s.heap m) (_N₀ : News h₀ L s.heap news)
    (hclos : closureFor scope env = pure cl) (hcell : ∀ y ∈ scope.names, y.2 ≠ .cell) (hkind : scope.kind = .function)
    (hnames : ∀ y ∈ scope.names, y.2 = .local → scope.names.lookup y.1 = some .local) (hx : scope.names.lookup x = some .local)
    (hmain : wpAny (model prog w) A (eval iter env) (fun xv s₁ => A.handled = none ∧ Fr h₀ L s₁.heap m ∧ ∃ I l vs n, xv = .ref I ∧ News h₀ L s₁.heap ((I, revObj l (((vs : List Value).length : Int) - 1)) :: news) ∧ (l, listOf vs.toArray n) ∈ news ∧ (∀ p ∈ news, p.1 ≠ I) ∧ vs.length ≤ sizeLine ∧
      (∀ i v I oI C oC D m₂ ys h tk (E' : Value → Shared → Prop), i < vs.length → vs[vs.length - 1 - i]? = some v → LCg.NsObj oC m₂ → m₂ x = some v → Fr h₀ L h m → News h₀ L h ((I, oI) :: (C, oC) :: (D, LCg.lst ys) :: news) →
        wpAny (model prog w) A (eval elt (compEnvC scope cl C env)) (Pure1 h₀ L m { s₁ with heap := h, toks := tk } ((I, oI) :: (C, oC) :: (D, LCg.lst ys) :: news) (f i)) E' { s₁ with heap := h, toks := tk }) ∧
      (∀ D h tk, Fr h₀ L h m → News h₀ L h ((D, LCg.lst ((List.range vs.length).map f)) :: news) → LCg.Off1 D news → Q (.ref D) { s₁ with heap := h, toks := tk })) E s)
    (hs : ∀ x, foldedSetIterable iter env x = pure x := by intro _; rfl) :
    wpAny (model prog w) A (eval (.ListComp elt [⟨.Name x px, iter, [], 0⟩] scope pos) env) Q E s := by
  rw [eval_ListComp]
  refine wpAny_comprehension_free (use := none) rfl hs hclos hkind hnames (wpAny_mono hmain (fun xv s₁ h₁ => ?_) fun _ _ e => e)
  obtain ⟨hh, F, I, l, vs, n, rfl, N, hm, hoff, hsz, turn, fin⟩ := h₁
  have hlN := N _ (.tail _ hm)
  have hIN := N _ (.head _)
  have hit : s₁.heap.IsRevIter I l ((vs.length : Int) - 1) := ⟨_, hIN.1, rfl, rfl⟩
  have hne : l ≠ I := hoff _ hm
  refine wpAny_pyIter_revIter hit ?_
  refine LCg.block_U (S := fun nw => ∃ n, (l, listOf vs.toArray n) ∈ nw) (Fin := LCg.FinE h₀ L m s₁ Q) (Walks.listRev hh I l hne vs.toArray) (by simpa using hsz) (fun i h st => by obtain ⟨o, e, _⟩ := st.2.1; exact ⟨o, e⟩)
    (fun i h h' o nw st e e' _ N' ⟨n', hm'⟩ => ⟨st.1, by obtain ⟨o2, e2, r⟩ := st.2.1; rw [e] at e2; cases e2; exact ⟨o, e', r⟩, _, (N' _ hm').1, rfl, _, rfl⟩) hcell hkind hx
    ⟨Nat.zero_le _, by simpa using hit, _, hlN.1, rfl, _, rfl⟩ (fun b hb => ?_) F (fun p hp => N p (.tail _ hp)) (fun e => hIN.2.1 e.symm) hIN.2.2 hoff ⟨n, hm⟩ ?_ ?_
  · rcases List.mem_cons.mp hb with rfl | hb
    · exact Heap.lt_size hIN.1
    · rw [List.mem_singleton.mp hb]; exact Heap.lt_size hlN.1
  · refine rest_inv (fun i ys nx => nx = news ∧ ys = (List.range i).map f) ⟨rfl, rfl⟩ ?_ ?_
    · rintro i v I' oI C oC D m₂ ys nx h tk E' hi hv ⟨rfl, rfl⟩ hC hx F N off ne
      refine wpAny_mono (turn i v I' oI C oC D m₂ _ h tk E' (by simpa using hi) (by simpa using hv) hC hx F N) (fun y s₂ q => ?_) fun _ _ e => e
      obtain ⟨rfl, h', tk', rfl, F', N'⟩ := q
      exact LCg.CompEnd.intro F' N' nx (fun p h => h) off ⟨n, hm⟩ ⟨rfl, by rw [List.range_succ, List.map_append]; rfl⟩
    · rintro ys nx ⟨rfl, rfl⟩ D h tk F N off
      exact fin D h tk F (by simpa using N) off
  · intro D C h tk m' ys news' F' N' o1 hn hC₀ hD₀ hCL hDL hCD offC fin
    refine ⟨m', hn, fun h'' hs'' => fin D h'' tk (F'.change hs'' hCL hC₀) (fun p hp => ?_) o1⟩
    refine ⟨hs''.extBut _ _ ?_ (N' p hp).1, (N' p hp).2⟩
    rcases List.mem_cons.mp hp with rfl | hp
    · exact Ne.symm hCD
    · exact offC p hp
end
theorem range_rev (l : List Nat) {α : Type} (g : Nat → α) {n : Nat} (hn : n = l.length) : (List.range n).map (fun i => g (l.getD (l.length - 1 - i) 0)) = l.reverse.map g := by
  subst hn
  apply List.ext_getElem
  · simp
  · intro i h1 h2
    simp only [List.length_map, List.length_range] at h1
    simp only [List.getElem_map, List.getElem_range, List.getElem_reverse]
    rw [List.getD_eq_getElem?_getD, List.getElem?_eq_getElem (by omega)]
    rfl
end Mine

end
namespace Mine
set_option maxRecDepth 100000
set_option maxHeartbeats 8000000
variable {w : World} {p : Program} {loose : List Str} {mean : ExcName → Option Value} {mg mb : Str → Option Value} {qual : Str} {body : List Stmt} {scope : Scope} {g base : Heap} {L sc fa : Addr} {vs : List Value} {ns : List Int}
theorem in0 (c : LawCtx w p loose mean mg mb qual body scope g base L sc vs ns) {s : Shared} {Q : Flow → Shared → Prop} {E : Value → Shared → Prop} {o1 o2 o3 o4 o5 o6 o7 o8 o9 : Obj} {u : Str → Option Value} {chs : List (List Nat)} {cs ts : List Addr} {cl tyl : Addr} {n1 n2 : Nat} {wl : List (Addr × Obj)} (W : LawW chs cs ts cl tyl n1 n2 wl L) {al vl ow fl td : Addr} {ya yv yf : List Value} {n3 n4 n5 nt : Nat} {fits : Bool} {k1 k2 : Addr} {tps : List Addr} {l : List Nat} (T : LawT L td fl vl al cl tyl wl) (hyl : NatsAre yv l) (hlt : ∀ k ∈ l, k < chs.length) (hll : l.length ≤ 4) (d3 : cdat o3 (some (.ref tyl))) (d5 : cdat o5 (some (.ref vl)))
    (F : Fr g L s.heap (fun y => if y = Str.ofString "own" then some (.ref ow) else if y = Str.ofString "fits" then some (.bool fits) else u y)) (N : News g L s.heap ((L + 1 + 1 + 1 + 1 + 1 + 1 + 1 + 1 + 1, o9) :: (L + 1 + 1 + 1 + 1 + 1 + 1 + 1 + 1, o8) :: (L + 1 + 1 + 1 + 1 + 1 + 1 + 1, o7) :: (L + 1 + 1 + 1 + 1 + 1 + 1, o6) :: (L + 1 + 1 + 1 + 1 + 1, o5) :: (L + 1 + 1 + 1 + 1, o4) :: (L + 1 + 1 + 1, o3) :: (L + 1 + 1, o2) :: (L + 1, o1) :: (652, tabObj ((#[] ++ #[rawInt ((403 : Nat) : Int), rawInt ((45 : Nat) : Int), Value.ref k1]) ++ #[rawInt ((404 : Nat) : Int), rawInt ((46 : Nat) : Int), Value.ref k2])) :: (td, listOf (tps.map Value.ref).toArray nt) :: (fl, listOf yf.toArray n5) :: (vl, listOf yv.toArray n4) :: (al, listOf ya.toArray n3) :: (cl, listOf (cs.map Value.ref).toArray n1) :: (tyl, listOf (ts.map Value.ref).toArray n2) :: wl))
    (next : ∀ h' tk ot tl, LawW chs cs ts cl tyl n1 n2 (tl ++ wl) L → LawT L td fl vl al cl tyl (tl ++ wl) → (∀ At : Addr → Obj → Prop, (∀ q ∈ tl ++ wl, At q.1 q.2) → TvAt At ot (Str.ofString "S") (tyL ts l.reverse) (ts.getD 0 0)) →
      Fr g L h' (fun y => if y = Str.ofString "other" then some (.ref ot) else if y = Str.ofString "own" then some (.ref ow) else if y = Str.ofString "fits" then some (.bool fits) else u y) → News g L h' ((L + 1 + 1 + 1 + 1 + 1 + 1 + 1 + 1 + 1, o9) :: (L + 1 + 1 + 1 + 1 + 1 + 1 + 1 + 1, o8) :: (L + 1 + 1 + 1 + 1 + 1 + 1 + 1, o7) :: (L + 1 + 1 + 1 + 1 + 1 + 1, o6) :: (L + 1 + 1 + 1 + 1 + 1, o5) :: (L + 1 + 1 + 1 + 1, o4) :: (L + 1 + 1 + 1, o3) :: (L + 1 + 1, o2) :: (L + 1, o1) :: (652, tabObj ((#[] ++ #[rawInt ((403 : Nat) : Int), rawInt ((45 : Nat) : Int), Value.ref k1]) ++ #[rawInt ((404 : Nat) : Int), rawInt ((46 : Nat) : Int), Value.ref k2])) :: (td, listOf (tps.map Value.ref).toArray nt) :: (fl, listOf yf.toArray n5) :: (vl, listOf yv.toArray n4) :: (al, listOf ya.toArray n3) :: (cl, listOf (cs.map Value.ref).toArray n1) :: (tyl, listOf (ts.map Value.ref).toArray n2) :: (tl ++ wl)) → wpAny (model PG w) (callerA.deeper (lawEnv qual scope L fa)) (execs ((ifBody (body.drop 15)).drop 1) (lawEnv qual scope L fa)) Q E { s with heap := h', toks := tk }) :
    wpAny (model PG w) (callerA.deeper (lawEnv qual scope L fa)) (execs ((ifBody (body.drop 15)).drop 0) (lawEnv qual scope L fa)) Q E s := by
  obtain ⟨hf, K, X, TP, hl, hI, hlen, hC⟩ := c
  obtain ⟨name, params, dV, kV, doc, pm, an, cdv, ct, oc, od, osl, hf⟩ := hf
  have hf2 : (hd.heap_39 w.params).lookup 655 = some ⟨_, _, .func (fnOf _ _ _ _ _ _ _ _ _ _ _ _), _⟩ := rfl
  rw [hf2] at hf
  cases hf
  clear hf2
  dsimp only [List.drop, ifBody]
  have hcs := W.hcs
  have hts := W.hts
  have hlc := W.hlc
  have h652 := W.h652
  have hpos := W.hgd.pos
  repeat ((fail_if_success (with_reducible show wpAny _ _ (call (Value.ref 161) _ _) _ _ _)); (first | (k_unfold; (try dsimp only)) | walk1 | (dsimp only; walk1)))
  rename News _ _ _ _ => Nx
  (k_dflt (refine' Mine.Makes.use Mine.new_id_does ?k1 ?k2 ?k3 ?k4 ?k5 ?k6 ?k7 ?k8 ?k9 ?_); (case k1 => k_asm); (case k2 => k_asm); (case k3 => k_asm); (case k4 => k_asm); (case k5 => k_asm); (case k6 => exact rfl); (case k7 => exact fun _ _ => trivial); (case k8 => k_room); (case k9 => k_units))
  intro _ tl1 h' tk' F' N' G' S' hR'
  obtain ⟨xi, rfl, hxi⟩ := hR'
  have hc1 := off_adr (tl := tl1) (l := (L + 1 + 1 + 1 + 1 + 1 + 1 + 1 + 1 + 1, o9) :: (L + 1 + 1 + 1 + 1 + 1 + 1 + 1 + 1, o8) :: (L + 1 + 1 + 1 + 1 + 1 + 1 + 1, o7) :: (L + 1 + 1 + 1 + 1 + 1 + 1, o6) :: (L + 1 + 1 + 1 + 1 + 1, o5) :: (L + 1 + 1 + 1 + 1, o4) :: (L + 1 + 1 + 1, o3) :: (L + 1 + 1, o2) :: (L + 1, o1) :: (652, tabObj ((#[] ++ #[rawInt ((403 : Nat) : Int), rawInt ((45 : Nat) : Int), Value.ref k1]) ++ #[rawInt ((404 : Nat) : Int), rawInt ((46 : Nat) : Int), Value.ref k2])) :: []) (as := [L + 1 + 1 + 1 + 1 + 1 + 1 + 1 + 1 + 1, L + 1 + 1 + 1 + 1 + 1 + 1 + 1 + 1, L + 1 + 1 + 1 + 1 + 1 + 1 + 1, L + 1 + 1 + 1 + 1 + 1 + 1, L + 1 + 1 + 1 + 1 + 1, L + 1 + 1 + 1 + 1, L + 1 + 1 + 1, L + 1 + 1, L + 1, 652]) (fun z hz => off_of_fresh Nx S' (p := z) (List.mem_append_left ((td, listOf (tps.map Value.ref).toArray nt) :: (fl, listOf yf.toArray n5) :: (vl, listOf yv.toArray n4) :: (al, listOf ya.toArray n3) :: (cl, listOf (cs.map Value.ref).toArray n1) :: (tyl, listOf (ts.map Value.ref).toArray n2) :: wl) hz)) rfl
  have ht1 := off_of_fresh (tl := tl1) Nx S' (p := (td, listOf (tps.map Value.ref).toArray nt)) (by simp)
  have N₁ : News g L h' ((L + 1 + 1 + 1 + 1 + 1 + 1 + 1 + 1 + 1, o9) :: (L + 1 + 1 + 1 + 1 + 1 + 1 + 1 + 1, o8) :: (L + 1 + 1 + 1 + 1 + 1 + 1 + 1, o7) :: (L + 1 + 1 + 1 + 1 + 1 + 1, o6) :: (L + 1 + 1 + 1 + 1 + 1, o5) :: (L + 1 + 1 + 1 + 1, o4) :: (L + 1 + 1 + 1, o3) :: (L + 1 + 1, o2) :: (L + 1, o1) :: (652, tabObj ((#[] ++ #[rawInt ((403 : Nat) : Int), rawInt ((45 : Nat) : Int), Value.ref k1]) ++ #[rawInt ((404 : Nat) : Int), rawInt ((46 : Nat) : Int), Value.ref k2])) :: (td, listOf (tps.map Value.ref).toArray nt) :: (fl, listOf yf.toArray n5) :: (vl, listOf yv.toArray n4) :: (al, listOf ya.toArray n3) :: (cl, listOf (cs.map Value.ref).toArray n1) :: (tyl, listOf (ts.map Value.ref).toArray n2) :: (tl1 ++ wl)) := news_tail (P := (L + 1 + 1 + 1 + 1 + 1 + 1 + 1 + 1 + 1, o9) :: (L + 1 + 1 + 1 + 1 + 1 + 1 + 1 + 1, o8) :: (L + 1 + 1 + 1 + 1 + 1 + 1 + 1, o7) :: (L + 1 + 1 + 1 + 1 + 1 + 1, o6) :: (L + 1 + 1 + 1 + 1 + 1, o5) :: (L + 1 + 1 + 1 + 1, o4) :: (L + 1 + 1 + 1, o3) :: (L + 1 + 1, o2) :: (L + 1, o1) :: (652, tabObj ((#[] ++ #[rawInt ((403 : Nat) : Int), rawInt ((45 : Nat) : Int), Value.ref k1]) ++ #[rawInt ((404 : Nat) : Int), rawInt ((46 : Nat) : Int), Value.ref k2])) :: (td, listOf (tps.map Value.ref).toArray nt) :: (fl, listOf yf.toArray n5) :: (vl, listOf yv.toArray n4) :: (al, listOf ya.toArray n3) :: (cl, listOf (cs.map Value.ref).toArray n1) :: (tyl, listOf (ts.map Value.ref).toArray n2) :: []) N'
  clear N' Nx
  repeat ((fail_if_success (with_reducible show wpAny _ _ (eval (PySem.Expr.ListComp _ _ _ _) _) _ _ _)); (first | (k_unfold; (try dsimp only)) | walk1 | (dsimp only; walk1)))
  rename Fr _ _ _ _ => F₀
  rename News _ _ _ _ => N₀
  k_dflt (refine comp_rev (fun i => Value.ref (ts.getD (l.getD (l.length - 1 - i) 0) 0)) F₀ N₀ (by with_unfolding_all rfl) (by decide) rfl (by decide) (by rfl) ?_)
  repeat ((fail_if_success (with_reducible show wpAny _ _ (call (Value.type _) _) _ _ _)); (first | (k_unfold; (try dsimp only)) | walk1 | (dsimp only; walk1)))
  rename Fr _ _ _ _ => Fr0
  rename News _ _ _ _ => Nr0
  k_dflt (refine krv_reversed Fr0 Nr0 (News.isList Nr0 (by k_mem)) ?_)
  intro I h' F' N' l1
  dsimp only
  refine ⟨rfl, F', I, vl, yv, n4, rfl, N', by k_mem, fun p hp => Nat.ne_of_lt (l1 p hp), by rw [nats_len hyl]; unfold sizeLine; omega, ?_, ?_⟩
  · intro i v I oI C oC D m₂ ys h tk E' hi hv hC hm F₂ N₂
    obtain ⟨k, t, hk, rfl⟩ := nats_at hyl hv
    have hkl := hlt k (List.mem_of_getElem? hk)
    have hgk : l.getD (l.length - 1 - i) 0 = k := by rw [← nats_len hyl, List.getD_eq_getElem?_getD, hk]; rfl
    clear Fr0 Nr0 F' N'
    k_steps
    exact Pure1.intro (by rw [hgk]) (by assumption) (by assumption)
  · intro D h tk F₂ N₂ off
    clear Fr0 Nr0 F' N'
    rw [range_rev l (fun k => Value.ref (ts.getD k 0)) (nats_len hyl)] at N₂
    have hD := off1_mem off
    have hc2 := off_adr (tl := [(D, LCg.lst (l.reverse.map fun k => Value.ref (ts.getD k 0)))]) (l := (L + 1 + 1 + 1 + 1 + 1 + 1 + 1 + 1 + 1, o9) :: (L + 1 + 1 + 1 + 1 + 1 + 1 + 1 + 1, o8) :: (L + 1 + 1 + 1 + 1 + 1 + 1 + 1, o7) :: (L + 1 + 1 + 1 + 1 + 1 + 1, o6) :: (L + 1 + 1 + 1 + 1 + 1, o5) :: (L + 1 + 1 + 1 + 1, o4) :: (L + 1 + 1 + 1, o3) :: (L + 1 + 1, o2) :: (L + 1, o1) :: (652, tabObj ((#[] ++ #[rawInt ((403 : Nat) : Int), rawInt ((45 : Nat) : Int), Value.ref k1]) ++ #[rawInt ((404 : Nat) : Int), rawInt ((46 : Nat) : Int), Value.ref k2])) :: []) (as := [L + 1 + 1 + 1 + 1 + 1 + 1 + 1 + 1 + 1, L + 1 + 1 + 1 + 1 + 1 + 1 + 1 + 1, L + 1 + 1 + 1 + 1 + 1 + 1 + 1, L + 1 + 1 + 1 + 1 + 1 + 1, L + 1 + 1 + 1 + 1 + 1, L + 1 + 1 + 1 + 1, L + 1 + 1 + 1, L + 1 + 1, L + 1, 652]) (fun z hz q hq => by rw [List.mem_singleton.mp hq]; exact fun e => hD z (List.mem_append_left ((td, listOf (tps.map Value.ref).toArray nt) :: (fl, listOf yf.toArray n5) :: (vl, listOf yv.toArray n4) :: (al, listOf ya.toArray n3) :: (cl, listOf (cs.map Value.ref).toArray n1) :: (tyl, listOf (ts.map Value.ref).toArray n2) :: (tl1 ++ wl)) hz) e.symm) rfl
    have ht2 : ∀ q ∈ [(D, LCg.lst (l.reverse.map fun k => Value.ref (ts.getD k 0)))], q.1 ≠ td := fun q hq => by rw [List.mem_singleton.mp hq]; exact fun e => hD (td, listOf (tps.map Value.ref).toArray nt) (by simp) e.symm
    have N₃ : News g L h ((L + 1 + 1 + 1 + 1 + 1 + 1 + 1 + 1 + 1, o9) :: (L + 1 + 1 + 1 + 1 + 1 + 1 + 1 + 1, o8) :: (L + 1 + 1 + 1 + 1 + 1 + 1 + 1, o7) :: (L + 1 + 1 + 1 + 1 + 1 + 1, o6) :: (L + 1 + 1 + 1 + 1 + 1, o5) :: (L + 1 + 1 + 1 + 1, o4) :: (L + 1 + 1 + 1, o3) :: (L + 1 + 1, o2) :: (L + 1, o1) :: (652, tabObj ((#[] ++ #[rawInt ((403 : Nat) : Int), rawInt ((45 : Nat) : Int), Value.ref k1]) ++ #[rawInt ((404 : Nat) : Int), rawInt ((46 : Nat) : Int), Value.ref k2])) :: (td, listOf (tps.map Value.ref).toArray nt) :: (fl, listOf yf.toArray n5) :: (vl, listOf yv.toArray n4) :: (al, listOf ya.toArray n3) :: (cl, listOf (cs.map Value.ref).toArray n1) :: (tyl, listOf (ts.map Value.ref).toArray n2) :: ([(D, LCg.lst (l.reverse.map fun k => Value.ref (ts.getD k 0)))] ++ (tl1 ++ wl))) := news_tail (tl := [(D, LCg.lst (l.reverse.map fun k => Value.ref (ts.getD k 0)))]) (P := (L + 1 + 1 + 1 + 1 + 1 + 1 + 1 + 1 + 1, o9) :: (L + 1 + 1 + 1 + 1 + 1 + 1 + 1 + 1, o8) :: (L + 1 + 1 + 1 + 1 + 1 + 1 + 1, o7) :: (L + 1 + 1 + 1 + 1 + 1 + 1, o6) :: (L + 1 + 1 + 1 + 1 + 1, o5) :: (L + 1 + 1 + 1 + 1, o4) :: (L + 1 + 1 + 1, o3) :: (L + 1 + 1, o2) :: (L + 1, o1) :: (652, tabObj ((#[] ++ #[rawInt ((403 : Nat) : Int), rawInt ((45 : Nat) : Int), Value.ref k1]) ++ #[rawInt ((404 : Nat) : Int), rawInt ((46 : Nat) : Int), Value.ref k2])) :: (td, listOf (tps.map Value.ref).toArray nt) :: (fl, listOf yf.toArray n5) :: (vl, listOf yv.toArray n4) :: (al, listOf ya.toArray n3) :: (cl, listOf (cs.map Value.ref).toArray n1) :: (tyl, listOf (ts.map Value.ref).toArray n2) :: []) N₂
    clear N₂ off hD
    repeat ((fail_if_success (with_reducible show wpAny _ _ (call (Value.ref 204) _ _) _ _ _)); (first | (k_unfold; (try dsimp only)) | walk1 | (dsimp only; walk1)))
    rename News _ _ _ _ => Nx
    (k_dflt (refine' Mine.Makes.use Mine.new_tv_does ?k1 ?k2 ?k3 ?k4 ?k5 ?k6 ?k7 ?k8 ?k9 ?_); (case k1 => k_asm); (case k2 => k_asm); (case k3 => k_asm); (case k4 => k_asm); (case k5 => k_asm); (case k6 => exact rfl); (case k7 => exact fun _ _ => trivial); (case k8 => k_room); (case k9 => k_units))
    intro _ tl3 h' tk' F' N' G' S' hR'
    obtain ⟨ot, rfl, hx⟩ := hR'
    have hc3 := off_adr (tl := tl3) (l := (L + 1 + 1 + 1 + 1 + 1 + 1 + 1 + 1 + 1, o9) :: (L + 1 + 1 + 1 + 1 + 1 + 1 + 1 + 1, o8) :: (L + 1 + 1 + 1 + 1 + 1 + 1 + 1, o7) :: (L + 1 + 1 + 1 + 1 + 1 + 1, o6) :: (L + 1 + 1 + 1 + 1 + 1, o5) :: (L + 1 + 1 + 1 + 1, o4) :: (L + 1 + 1 + 1, o3) :: (L + 1 + 1, o2) :: (L + 1, o1) :: (652, tabObj ((#[] ++ #[rawInt ((403 : Nat) : Int), rawInt ((45 : Nat) : Int), Value.ref k1]) ++ #[rawInt ((404 : Nat) : Int), rawInt ((46 : Nat) : Int), Value.ref k2])) :: []) (as := [L + 1 + 1 + 1 + 1 + 1 + 1 + 1 + 1 + 1, L + 1 + 1 + 1 + 1 + 1 + 1 + 1 + 1, L + 1 + 1 + 1 + 1 + 1 + 1 + 1, L + 1 + 1 + 1 + 1 + 1 + 1, L + 1 + 1 + 1 + 1 + 1, L + 1 + 1 + 1 + 1, L + 1 + 1 + 1, L + 1 + 1, L + 1, 652]) (fun z hz => off_of_fresh Nx S' (p := z) (List.mem_append_left ((td, listOf (tps.map Value.ref).toArray nt) :: (fl, listOf yf.toArray n5) :: (vl, listOf yv.toArray n4) :: (al, listOf ya.toArray n3) :: (cl, listOf (cs.map Value.ref).toArray n1) :: (tyl, listOf (ts.map Value.ref).toArray n2) :: ([(D, LCg.lst (l.reverse.map fun k => Value.ref (ts.getD k 0)))] ++ (tl1 ++ wl))) hz)) rfl
    have ht3 := off_of_fresh (tl := tl3) Nx S' (p := (td, listOf (tps.map Value.ref).toArray nt)) (by simp)
    have N₄ : News g L h' ((L + 1 + 1 + 1 + 1 + 1 + 1 + 1 + 1 + 1, o9) :: (L + 1 + 1 + 1 + 1 + 1 + 1 + 1 + 1, o8) :: (L + 1 + 1 + 1 + 1 + 1 + 1 + 1, o7) :: (L + 1 + 1 + 1 + 1 + 1 + 1, o6) :: (L + 1 + 1 + 1 + 1 + 1, o5) :: (L + 1 + 1 + 1 + 1, o4) :: (L + 1 + 1 + 1, o3) :: (L + 1 + 1, o2) :: (L + 1, o1) :: (652, tabObj ((#[] ++ #[rawInt ((403 : Nat) : Int), rawInt ((45 : Nat) : Int), Value.ref k1]) ++ #[rawInt ((404 : Nat) : Int), rawInt ((46 : Nat) : Int), Value.ref k2])) :: (td, listOf (tps.map Value.ref).toArray nt) :: (fl, listOf yf.toArray n5) :: (vl, listOf yv.toArray n4) :: (al, listOf ya.toArray n3) :: (cl, listOf (cs.map Value.ref).toArray n1) :: (tyl, listOf (ts.map Value.ref).toArray n2) :: (tl3 ++ ([(D, LCg.lst (l.reverse.map fun k => Value.ref (ts.getD k 0)))] ++ (tl1 ++ wl)))) := news_tail (P := (L + 1 + 1 + 1 + 1 + 1 + 1 + 1 + 1 + 1, o9) :: (L + 1 + 1 + 1 + 1 + 1 + 1 + 1 + 1, o8) :: (L + 1 + 1 + 1 + 1 + 1 + 1 + 1, o7) :: (L + 1 + 1 + 1 + 1 + 1 + 1, o6) :: (L + 1 + 1 + 1 + 1 + 1, o5) :: (L + 1 + 1 + 1 + 1, o4) :: (L + 1 + 1 + 1, o3) :: (L + 1 + 1, o2) :: (L + 1, o1) :: (652, tabObj ((#[] ++ #[rawInt ((403 : Nat) : Int), rawInt ((45 : Nat) : Int), Value.ref k1]) ++ #[rawInt ((404 : Nat) : Int), rawInt ((46 : Nat) : Int), Value.ref k2])) :: (td, listOf (tps.map Value.ref).toArray nt) :: (fl, listOf yf.toArray n5) :: (vl, listOf yv.toArray n4) :: (al, listOf ya.toArray n3) :: (cl, listOf (cs.map Value.ref).toArray n1) :: (tyl, listOf (ts.map Value.ref).toArray n2) :: []) N'
    clear N' Nx
    have hnx := next (tl := tl3 ++ ([(D, LCg.lst (l.reverse.map fun k => Value.ref (ts.getD k 0)))] ++ tl1))
    rw [List.append_assoc, List.append_assoc] at hnx
    repeat ((fail_if_success (with_reducible show wpAny _ _ (execs _ _) _ _ _)); (first | (k_unfold; (try dsimp only)) | walk1 | (dsimp only; walk1)))
    refine hnx _ _ ot (((W.more hc1).more hc2).more hc3) (((T.more ht1 hc1).more ht2 hc2).more ht3 hc3) ?_ (by assumption) (by assumption)
    intro At hAt
    refine hx At 2 (tyL ts l.reverse) (l.reverse.map fun k => Value.ref (ts.getD k 0)).length (fun q hq => hAt q (List.mem_append_left _ hq)) (hxi At fun q hq => hAt q (List.mem_append_right _ (List.mem_append_right _ (List.mem_append_left _ hq)))) ?_
    rw [List.map_map]
    exact hAt (D, _) (List.mem_append_right _ (List.mem_append_left _ (.head _)))
end Mine

namespace Mine
set_option maxRecDepth 100000
section
variable {w : World} {p : Program} {loose : List Str} {mean : ExcName → Option Value} {mg mb : Str → Option Value} {chs : List (List Nat)} {cs ts : List Addr} {l : List Nat} {ow ot ub : Addr} {nm nm' : Str}
theorem gets_other (g : Good chs) (h7 : chs.length ≤ 7) (hne : l ≠ []) (hlt : ∀ k ∈ l, k < chs.length) (hll : l.length ≤ 4) :
    Gets w p loose mean mg mb 35 ow ot false (fun g => Wd (hAt g) chs cs ∧ TsAt (hAt g) chs cs ts ∧ TvAt (hAt g) ow nm (tyL ts l) ub ∧ TvAt (hAt g) ot nm' (tyL ts l.reverse) (ts.getD 0 0)) nm (some ot) := by
  cases hl : l with
  | nil => exact absurd hl hne
  | cons k0 ks =>
    rw [hl] at hlt hll
    cases hr : (k0 :: ks).reverse with
    | nil => simp at hr
    | cons i0 is =>
      have hmem : ∀ k ∈ i0 :: is, k ∈ k0 :: ks := fun k hk => by rw [← hr] at hk; exact List.mem_reverse.mp hk
      have hlen : (i0 :: is).length = (k0 :: ks).length := by rw [← hr, List.length_reverse]
      have hall : ((i0 :: is).all fun v1 => (k0 :: ks).any fun v => v == v1) = true := by
        rw [List.all_eq_true]
        intro v1 h1
        rw [List.any_eq_true]
        exact ⟨v1, hmem v1 h1, by simp⟩
      have G := @gt_tv w p loose mean mg mb chs cs ts i0 k0 is ks ow ot ub (ts.getD 0 0) nm nm' false g.pos (fun k hk => hlt k (hmem k hk)) hlt (by simp at hlen hll; omega) (by simp at hll; omega) g.mem_lt (g.sub_self h7) (g.sub_anti h7) (fun h => by rw [hall] at h; cases h)
      rw [if_pos hall] at G
      exact @Gets.weaken w p loose mean mg mb _ _ _ _ _ _ _ _ (fun g h => ⟨h.1, h.2.1, h.2.2.1, h.2.2.2, rfl⟩) @G
theorem gets_alone (g : Good chs) (h7 : chs.length ≤ 7) (hne : l ≠ []) (hlt : ∀ k ∈ l, k < chs.length) (hll : l.length ≤ 4) {i0 : Nat} (hi : i0 < chs.length) (hil : i0 ∉ l) :
    Gets w p loose mean mg mb 35 ow ot false (fun g => Wd (hAt g) chs cs ∧ TsAt (hAt g) chs cs ts ∧ TvAt (hAt g) ow nm (tyL ts l) ub ∧ TvAt (hAt g) ot nm' (tyL ts [i0]) (ts.getD 0 0)) nm ((best chs (l.filter fun k => sub chs i0 k)).map fun k => ts.getD k 0) := by
  cases hl : l with
  | nil => exact absurd hl hne
  | cons k0 ks =>
    rw [hl] at hlt hll hil
    have hall : ([i0].all fun v1 => (k0 :: ks).any fun v => v == v1) = false := by
      rw [Bool.eq_false_iff]
      intro h
      rw [List.all_eq_true] at h
      obtain ⟨v, hv, e⟩ := List.any_eq_true.mp (h i0 (.head _))
      exact hil (by rw [← beq_iff_eq.mp e]; exact hv)
    have hf : ((k0 :: ks).filter fun k => sub chs i0 k || sub chs 0 k) = (k0 :: ks).filter fun k => sub chs i0 k := by
      apply List.filter_congr
      intro k hk
      have hkl := hlt k hk
      rw [g.sub_eq h7 i0 hkl, g.sub_eq h7 0 hkl, g.zero]
      by_cases h0 : k = 0
      · subst h0
        obtain ⟨pre, e, _⟩ := g.split i0 hi
        rw [e]; simp
      · simp [h0]
    have G := @gt_tv w p loose mean mg mb chs cs ts i0 k0 [] ks ow ot ub (ts.getD 0 0) nm nm' false g.pos (fun k hk => by rw [List.mem_singleton.mp hk]; exact hi) hlt (by simp) (by simp at hll; omega) g.mem_lt (g.sub_self h7) (g.sub_anti h7) (fun _ => rfl)
    rw [if_neg (by rw [hall]; exact Bool.false_ne_true), hf] at G
    exact @Gets.weaken w p loose mean mg mb _ _ _ _ _ _ _ _ (fun g h => ⟨h.1, h.2.1, h.2.2.1, h.2.2.2, rfl⟩) @G
end
theorem gt_given {nm : Str} {x : Addr} {y r : Value} {its its' : Array Value} {tl : List (Addr × Obj)} (h : GTOut y nm (some x) false r its its' tl) : r = .ref x ∧ its' = its ∧ tl = [] := h
theorem fr_rot {g h : Heap} {L : Addr} {a b c : Option Value} {u : Str → Option Value} {x y z : Str} (hxy : x ≠ y) (hxz : x ≠ z) (F : Fr g L h (fun q => if q = x then a else if q = y then b else if q = z then c else u q)) :
    Fr g L h (fun q => if q = y then b else if q = z then c else (fun q => if q = x then a else u q) q) := by
  have e : (fun q => if q = x then a else if q = y then b else if q = z then c else u q) = fun q => if q = y then b else if q = z then c else (fun q => if q = x then a else u q) q := by
    funext q
    by_cases h1 : q = x
    · subst h1; simp [hxy, hxz]
    · simp [h1]
  rw [e] at F
  exact F
end Mine

namespace Mine
set_option maxRecDepth 100000
set_option maxHeartbeats 8000000
variable {w : World} {p : Program} {loose : List Str} {mean : ExcName → Option Value} {mg mb : Str → Option Value} {qual : Str} {body : List Stmt} {scope : Scope} {g base : Heap} {L sc fa : Addr} {vs : List Value} {ns : List Int}
theorem in1 (c : LawCtx w p loose mean mg mb qual body scope g base L sc vs ns) {s : Shared} {Q : Flow → Shared → Prop} {E : Value → Shared → Prop} {o1 o2 o3 o4 o5 o6 o7 o8 o9 : Obj} {u : Str → Option Value} {chs : List (List Nat)} {cs ts : List Addr} {cl tyl : Addr} {n1 n2 : Nat} {wl : List (Addr × Obj)} (W : LawW chs cs ts cl tyl n1 n2 wl L) {al vl ow fl td : Addr} {ya yv yf : List Value} {n3 n4 n5 nt : Nat} {fits : Bool} {k1 k2 : Addr} {tps : List Addr} {l : List Nat} (T : LawT L td fl vl al cl tyl wl) {ot ub : Addr} (hne : l ≠ []) (hlt : ∀ k ∈ l, k < chs.length) (hll : l.length ≤ 4) (htl : tps.length ≤ 1)
    (htv : ∀ At : Addr → Obj → Prop, (∀ q ∈ wl, At q.1 q.2) → TvAt At ow (Str.ofString "T") (tyL ts l) ub ∧ TvAt At ot (Str.ofString "S") (tyL ts l.reverse) (ts.getD 0 0)) (d9 : cdat o9 (some (.ref td)))
    (F : Fr g L s.heap (fun y => if y = Str.ofString "other" then some (.ref ot) else if y = Str.ofString "own" then some (.ref ow) else if y = Str.ofString "fits" then some (.bool fits) else u y)) (N : News g L s.heap ((L + 1 + 1 + 1 + 1 + 1 + 1 + 1 + 1 + 1, o9) :: (L + 1 + 1 + 1 + 1 + 1 + 1 + 1 + 1, o8) :: (L + 1 + 1 + 1 + 1 + 1 + 1 + 1, o7) :: (L + 1 + 1 + 1 + 1 + 1 + 1, o6) :: (L + 1 + 1 + 1 + 1 + 1, o5) :: (L + 1 + 1 + 1 + 1, o4) :: (L + 1 + 1 + 1, o3) :: (L + 1 + 1, o2) :: (L + 1, o1) :: (652, tabObj ((#[] ++ #[rawInt ((403 : Nat) : Int), rawInt ((45 : Nat) : Int), Value.ref k1]) ++ #[rawInt ((404 : Nat) : Int), rawInt ((46 : Nat) : Int), Value.ref k2])) :: (td, listOf (tps.map Value.ref).toArray nt) :: (fl, listOf yf.toArray n5) :: (vl, listOf yv.toArray n4) :: (al, listOf ya.toArray n3) :: (cl, listOf (cs.map Value.ref).toArray n1) :: (tyl, listOf (ts.map Value.ref).toArray n2) :: wl))
    (next : ∀ h' tk k3 nt (u : Str → Option Value), Fr g L h' (fun y => if y = Str.ofString "own" then some (.ref ow) else if y = Str.ofString "fits" then some (.bool fits) else u y) → News g L h' ((L + 1 + 1 + 1 + 1 + 1 + 1 + 1 + 1 + 1, o9) :: (L + 1 + 1 + 1 + 1 + 1 + 1 + 1 + 1, o8) :: (L + 1 + 1 + 1 + 1 + 1 + 1 + 1, o7) :: (L + 1 + 1 + 1 + 1 + 1 + 1, o6) :: (L + 1 + 1 + 1 + 1 + 1, o5) :: (L + 1 + 1 + 1 + 1, o4) :: (L + 1 + 1 + 1, o3) :: (L + 1 + 1, o2) :: (L + 1, o1) :: (652, tabObj (((#[] ++ #[rawInt ((403 : Nat) : Int), rawInt ((45 : Nat) : Int), Value.ref k1]) ++ #[rawInt ((404 : Nat) : Int), rawInt ((46 : Nat) : Int), Value.ref k2]) ++ #[rawInt ((416 : Nat) : Int), rawInt ((43 : Nat) : Int), Value.ref k3])) :: (td, listOf (tps.map Value.ref).toArray nt) :: (fl, listOf yf.toArray n5) :: (vl, listOf yv.toArray n4) :: (al, listOf ya.toArray n3) :: (cl, listOf (cs.map Value.ref).toArray n1) :: (tyl, listOf (ts.map Value.ref).toArray n2) :: wl) → wpAny (model PG w) (callerA.deeper (lawEnv qual scope L fa)) (execs ((ifBody (body.drop 15)).drop 2) (lawEnv qual scope L fa)) Q E { s with heap := h', toks := tk }) :
    wpAny (model PG w) (callerA.deeper (lawEnv qual scope L fa)) (execs ((ifBody (body.drop 15)).drop 1) (lawEnv qual scope L fa)) Q E s := by
  obtain ⟨hf, K, X, TP, hl, hI, hlen, hC⟩ := c
  obtain ⟨name, params, dV, kV, doc, pm, an, cdv, ct, oc, od, osl, hf⟩ := hf
  have hf2 : (hd.heap_39 w.params).lookup 655 = some ⟨_, _, .func (fnOf _ _ _ _ _ _ _ _ _ _ _ _), _⟩ := rfl
  rw [hf2] at hf
  cases hf
  clear hf2
  dsimp only [List.drop, ifBody]
  have hcs := W.hcs
  have hts := W.hts
  have hlc := W.hlc
  have h652 := W.h652
  have hpos := W.hgd.pos
  have y0 : @Ne Nat fl (652 : Nat) := T.oc fl (by simp) (652 : Nat) (by simp)
  have y1 : @Ne Nat vl (652 : Nat) := T.oc vl (by simp) (652 : Nat) (by simp)
  have y2 : @Ne Nat al (652 : Nat) := T.oc al (by simp) (652 : Nat) (by simp)
  have y3 : @Ne Nat cl (652 : Nat) := T.oc cl (by simp) (652 : Nat) (by simp)
  have y4 : @Ne Nat tyl (652 : Nat) := T.oc tyl (by simp) (652 : Nat) (by simp)
  have y5 : @Ne Nat td (652 : Nat) := Nat.ne_of_gt (T.ctd (652 : Nat) (by simp))
  have y6 : ∀ q ∈ wl, q.1 ≠ (652 : Nat) := T.wc (652 : Nat) (by simp)
  repeat ((fail_if_success (with_reducible show wpAny _ _ (call (Value.ref 624) _ _) _ _ _)); (first | (k_unfold; (try dsimp only)) | walk1 | (dsimp only; walk1)))
  rename (@LT.lt Nat _ (L + 1 + 1 + 1 + 1 + 1 + 1 + 1 + 1 + 1) _ ∧ _) => lc
  rename (@LT.lt Nat _ _ _) => lc2
  rename News _ _ _ _ => Nx
  have lc' := of_allLt (l := (L + 1 + 1 + 1 + 1 + 1 + 1 + 1 + 1 + 1, o9) :: (L + 1 + 1 + 1 + 1 + 1 + 1 + 1 + 1, o8) :: (L + 1 + 1 + 1 + 1 + 1 + 1 + 1, o7) :: (L + 1 + 1 + 1 + 1 + 1 + 1, o6) :: (L + 1 + 1 + 1 + 1 + 1, o5) :: (L + 1 + 1 + 1 + 1, o4) :: (L + 1 + 1 + 1, o3) :: (L + 1 + 1, o2) :: (L + 1, o1) :: (652, tabObj ((#[] ++ #[rawInt ((403 : Nat) : Int), rawInt ((45 : Nat) : Int), Value.ref k1]) ++ #[rawInt ((404 : Nat) : Int), rawInt ((46 : Nat) : Int), Value.ref k2])) :: (td, listOf (tps.map Value.ref).toArray nt) :: (fl, listOf yf.toArray n5) :: (vl, listOf yv.toArray n4) :: (al, listOf ya.toArray n3) :: (cl, listOf (cs.map Value.ref).toArray n1) :: (tyl, listOf (ts.map Value.ref).toArray n2) :: wl) lc
  have N1 := told_in (C8 := (L + 1 + 1 + 1 + 1 + 1 + 1 + 1 + 1, o8) :: (L + 1 + 1 + 1 + 1 + 1 + 1 + 1, o7) :: (L + 1 + 1 + 1 + 1 + 1 + 1, o6) :: (L + 1 + 1 + 1 + 1 + 1, o5) :: (L + 1 + 1 + 1 + 1, o4) :: (L + 1 + 1 + 1, o3) :: (L + 1 + 1, o2) :: (L + 1, o1) :: (652, _) :: []) (d := (td, listOf (tps.map Value.ref).toArray nt)) (r := (fl, listOf yf.toArray n5) :: (vl, listOf yv.toArray n4) :: (al, listOf ya.toArray n3) :: (cl, listOf (cs.map Value.ref).toArray n1) :: (tyl, listOf (ts.map Value.ref).toArray n2) :: wl) Nx
  have hoff := lam_off2 h652 T N1 lc' lc2
  have hwm : ∀ (tb0 : Obj), ∀ q ∈ wl, q ∈ (L + 1 + 1 + 1 + 1 + 1 + 1 + 1 + 1, o8) :: (L + 1 + 1 + 1 + 1 + 1 + 1 + 1, o7) :: (L + 1 + 1 + 1 + 1 + 1 + 1, o6) :: (L + 1 + 1 + 1 + 1 + 1, o5) :: (L + 1 + 1 + 1 + 1, o4) :: (L + 1 + 1 + 1, o3) :: (L + 1 + 1, o2) :: (L + 1, o1) :: (652, tb0) :: (fl, listOf yf.toArray n5) :: (vl, listOf yv.toArray n4) :: (al, listOf ya.toArray n3) :: (cl, listOf (cs.map Value.ref).toArray n1) :: (tyl, listOf (ts.map Value.ref).toArray n2) :: wl := fun tb0 q hq => by repeat (first | exact hq | refine .tail _ ?_)
  have lc3 : @LT.lt Nat _ td _ := lc' (td, listOf (tps.map Value.ref).toArray nt) (by simp)
  k_dflt (refine' Gets.useK (@gets_other w _ _ _ _ _ chs cs ts l ow ot ub (Str.ofString "T") (Str.ofString "S") W.hgd W.hlc hne hlt hll) ?k1 ?k2 ?k3 N1 ?k5 ?k6 ?k7 ?k8 ?k9 hoff ?kW ?kd ?ku ?_)
  case k1 => k_asm
  case k2 => k_asm
  case k3 => k_asm
  case k5 => k_asm
  case k6 => exact rfl
  case k7 => exact ⟨_, _, _, _, rfl⟩
  case k8 => exact fun _ => @lam_call3 w _ _ _ _ _ _ _ _ _ _ _ _ _ _ _ _ _ (by assumption) (by assumption) d9 (T.ctd _ (by simp)) lc3 lc2
  case k9 => rw [List.size_toArray, List.length_map]; omega
  case kW =>
    intro g9 G9
    have hw9 : ∀ q ∈ wl, hAt g9 q.1 q.2 := fun q hq => G9 _ _ (N1 q (List.mem_append_right _ (hwm _ q hq))).1 (hoff q (hwm _ q hq))
    exact ⟨(W.hwd _ hw9).1, (W.hwd _ hw9).2, (htv _ hw9).1, (htv _ hw9).2⟩
  case kd => k_room
  case ku => k_units
  intro r its' n' tl h' tk' F' N' hs hr
  obtain ⟨rfl, rfl, rfl⟩ := gt_given hr
  have N2 := told_out (C8 := (L + 1 + 1 + 1 + 1 + 1 + 1 + 1 + 1, o8) :: (L + 1 + 1 + 1 + 1 + 1 + 1 + 1, o7) :: (L + 1 + 1 + 1 + 1 + 1 + 1, o6) :: (L + 1 + 1 + 1 + 1 + 1, o5) :: (L + 1 + 1 + 1 + 1, o4) :: (L + 1 + 1 + 1, o3) :: (L + 1 + 1, o2) :: (L + 1, o1) :: (652, _) :: []) (r := (fl, listOf yf.toArray n5) :: (vl, listOf yv.toArray n4) :: (al, listOf ya.toArray n3) :: (cl, listOf (cs.map Value.ref).toArray n1) :: (tyl, listOf (ts.map Value.ref).toArray n2) :: []) (wl := wl) (tl := []) N'
  clear N' Nx N1
  dsimp only
  repeat ((fail_if_success (with_reducible show wpAny _ _ (compareOp _ _ _) _ _ _)); (first | (k_unfold; (try dsimp only)) | walk1 | (dsimp only; walk1)))
  k_dflt (refine wpAny_is_ref_self ?_)
  repeat ((fail_if_success (with_reducible show wpAny _ _ (execs (_ :: _) _) _ _ _)); (first | (k_unfold; (try dsimp only)) | walk1 | dsimp only))
  exact next _ _ _ n' _ (fr_rot (x := Str.ofString "other") (y := Str.ofString "own") (z := Str.ofString "fits") (by decide) (by decide) (by assumption)) (by assumption)
end Mine

namespace Mine
set_option maxRecDepth 100000
set_option maxHeartbeats 8000000
variable {w : World} {p : Program} {loose : List Str} {mean : ExcName → Option Value} {mg mb : Str → Option Value} {qual : Str} {body : List Stmt} {scope : Scope} {g base : Heap} {L sc fa : Addr} {vs : List Value} {ns : List Int}
theorem in2 (c : LawCtx w p loose mean mg mb qual body scope g base L sc vs ns) {s : Shared} {Q : Flow → Shared → Prop} {E : Value → Shared → Prop} {o1 o2 o3 o4 o5 o6 o7 o8 o9 : Obj} {u : Str → Option Value} {chs : List (List Nat)} {cs ts : List Addr} {cl tyl : Addr} {n1 n2 : Nat} {wl : List (Addr × Obj)} (W : LawW chs cs ts cl tyl n1 n2 wl L) {al vl ow fl td : Addr} {ya yv yf : List Value} {n3 n4 n5 nt : Nat} {fits : Bool} {k1 k2 : Addr} {tps : List Addr} {l : List Nat} (T : LawT L td fl vl al cl tyl wl) {k3 : Addr} {v7 : Option Value} (hyl : NatsAre yv l) (d1 : cdat o1 (some (.ref cl))) (d5 : cdat o5 (some (.ref vl))) (d7 : cdat o7 v7)
    (F : Fr g L s.heap (fun y => if y = Str.ofString "own" then some (.ref ow) else if y = Str.ofString "fits" then some (.bool fits) else u y)) (N : News g L s.heap ((L + 1 + 1 + 1 + 1 + 1 + 1 + 1 + 1 + 1, o9) :: (L + 1 + 1 + 1 + 1 + 1 + 1 + 1 + 1, o8) :: (L + 1 + 1 + 1 + 1 + 1 + 1 + 1, o7) :: (L + 1 + 1 + 1 + 1 + 1 + 1, o6) :: (L + 1 + 1 + 1 + 1 + 1, o5) :: (L + 1 + 1 + 1 + 1, o4) :: (L + 1 + 1 + 1, o3) :: (L + 1 + 1, o2) :: (L + 1, o1) :: (652, tabObj (((#[] ++ #[rawInt ((403 : Nat) : Int), rawInt ((45 : Nat) : Int), Value.ref k1]) ++ #[rawInt ((404 : Nat) : Int), rawInt ((46 : Nat) : Int), Value.ref k2]) ++ #[rawInt ((416 : Nat) : Int), rawInt ((43 : Nat) : Int), Value.ref k3])) :: (td, listOf (tps.map Value.ref).toArray nt) :: (fl, listOf yf.toArray n5) :: (vl, listOf yv.toArray n4) :: (al, listOf ya.toArray n3) :: (cl, listOf (cs.map Value.ref).toArray n1) :: (tyl, listOf (ts.map Value.ref).toArray n2) :: wl))
    (next : ∀ h' tk o7 sl ys n6, NatsAre ys ((List.range chs.length).filter fun k => !l.contains k) → cdat o7 (some (.ref sl)) → LawW chs cs ts cl tyl n1 n2 ((sl, listOf ys.toArray n6) :: wl) L → LawT L td fl vl al cl tyl ((sl, listOf ys.toArray n6) :: wl) → Fr g L h' (fun y => if y = Str.ofString "own" then some (.ref ow) else if y = Str.ofString "fits" then some (.bool fits) else u y) →
      News g L h' ((L + 1 + 1 + 1 + 1 + 1 + 1 + 1 + 1 + 1, o9) :: (L + 1 + 1 + 1 + 1 + 1 + 1 + 1 + 1, o8) :: (L + 1 + 1 + 1 + 1 + 1 + 1 + 1, o7) :: (L + 1 + 1 + 1 + 1 + 1 + 1, o6) :: (L + 1 + 1 + 1 + 1 + 1, o5) :: (L + 1 + 1 + 1 + 1, o4) :: (L + 1 + 1 + 1, o3) :: (L + 1 + 1, o2) :: (L + 1, o1) :: (652, tabObj (((#[] ++ #[rawInt ((403 : Nat) : Int), rawInt ((45 : Nat) : Int), Value.ref k1]) ++ #[rawInt ((404 : Nat) : Int), rawInt ((46 : Nat) : Int), Value.ref k2]) ++ #[rawInt ((416 : Nat) : Int), rawInt ((43 : Nat) : Int), Value.ref k3])) :: (td, listOf (tps.map Value.ref).toArray nt) :: (fl, listOf yf.toArray n5) :: (vl, listOf yv.toArray n4) :: (al, listOf ya.toArray n3) :: (cl, listOf (cs.map Value.ref).toArray n1) :: (tyl, listOf (ts.map Value.ref).toArray n2) :: (sl, listOf ys.toArray n6) :: wl) → wpAny (model PG w) (callerA.deeper (lawEnv qual scope L fa)) (execs ((ifBody (body.drop 15)).drop 3) (lawEnv qual scope L fa)) Q E { s with heap := h', toks := tk }) :
    wpAny (model PG w) (callerA.deeper (lawEnv qual scope L fa)) (execs ((ifBody (body.drop 15)).drop 2) (lawEnv qual scope L fa)) Q E s := by
  obtain ⟨hf, K, X, TP, hl, hI, hlen, hC⟩ := c
  obtain ⟨name, params, dV, kV, doc, pm, an, cdv, ct, oc, od, osl, hf⟩ := hf
  have hf2 : (hd.heap_39 w.params).lookup 655 = some ⟨_, _, .func (fnOf _ _ _ _ _ _ _ _ _ _ _ _), _⟩ := rfl
  rw [hf2] at hf
  cases hf
  clear hf2
  dsimp only [List.drop, ifBody]
  have hcs := W.hcs
  have hts := W.hts
  have hlc := W.hlc
  have h652 := W.h652
  have hpos := W.hgd.pos
  have y0 : @Ne Nat fl (L + 1 + 1 + 1 + 1 + 1 + 1 + 1) := T.oc fl (by simp) (L + 1 + 1 + 1 + 1 + 1 + 1 + 1) (by simp)
  have y1 : @Ne Nat vl (L + 1 + 1 + 1 + 1 + 1 + 1 + 1) := T.oc vl (by simp) (L + 1 + 1 + 1 + 1 + 1 + 1 + 1) (by simp)
  have y2 : @Ne Nat al (L + 1 + 1 + 1 + 1 + 1 + 1 + 1) := T.oc al (by simp) (L + 1 + 1 + 1 + 1 + 1 + 1 + 1) (by simp)
  have y3 : @Ne Nat cl (L + 1 + 1 + 1 + 1 + 1 + 1 + 1) := T.oc cl (by simp) (L + 1 + 1 + 1 + 1 + 1 + 1 + 1) (by simp)
  have y4 : @Ne Nat tyl (L + 1 + 1 + 1 + 1 + 1 + 1 + 1) := T.oc tyl (by simp) (L + 1 + 1 + 1 + 1 + 1 + 1 + 1) (by simp)
  have y5 : @Ne Nat td (L + 1 + 1 + 1 + 1 + 1 + 1 + 1) := Nat.ne_of_gt (T.ctd (L + 1 + 1 + 1 + 1 + 1 + 1 + 1) (by simp))
  have y6 : ∀ q ∈ wl, q.1 ≠ (L + 1 + 1 + 1 + 1 + 1 + 1 + 1) := T.wc (L + 1 + 1 + 1 + 1 + 1 + 1 + 1) (by simp)
  repeat ((fail_if_success (with_reducible show wpAny _ _ (eval (PySem.Expr.ListComp _ _ _ _) _) _ _ _)); (first | (k_unfold; (try dsimp only)) | walk1 | (dsimp only; walk1)))
  rename Fr _ _ _ _ => F₀
  rename News _ _ _ _ => N₀
  k_dflt (refine comp_I1 (fun k => !l.contains k) (fun k => k) F₀ N₀ (by with_unfolding_all rfl) (by decide) rfl (by decide) (by rfl) ?_)
  repeat ((fail_if_success (with_reducible show wpAny _ _ (call (Value.builtin _) _) _ _ _)); (first | (k_unfold; (try dsimp only)) | walk1 | (dsimp only; walk1)))
  k_dflt (refine len_at chs.length (News.isList (by k_asm) (by k_mem)) (by simp [hcs]) (by omega) ?_)
  repeat ((fail_if_success (with_reducible show wpAny _ _ (call (Value.type _) _) _ _ _)); (first | (k_unfold; (try dsimp only)) | walk1 | (dsimp only; walk1)))
  k_dflt (refine range_lt (by k_asm) (by k_asm) ?_)
  intro r h' tk u1 u2 F' N' l2
  refine ⟨rfl, F', news_drop1 N', chs.length, _, .range (N' _ (.head _)).1 (range_ok chs.length (by omega)).1 (range_ok chs.length (by omega)).2, by unfold sizeLine; omega, ?_, ?_⟩
  · rintro i v I oI C oC D m₂ ys h tk E' hi ⟨t, rfl⟩ hC hm F₁ N₁
    clear F₀ N₀ F' N'
    rw [Int.zero_add] at hm
    k_steps
    all_goals (first | exact PureI.intro (by assumption) (by assumption) | exact Pure1.intro rfl (by assumption) (by assumption) | assumption | simp_all)
  · rintro D ys h tk hys F₁ N₁ hD
    clear F₀ N₀ F' N'
    rw [List.map_id'] at hys
    have hc2 := off_adr (tl := [(D, listOf ys.toArray ys.length)]) (l := (L + 1 + 1 + 1 + 1 + 1 + 1 + 1 + 1 + 1, o9) :: (L + 1 + 1 + 1 + 1 + 1 + 1 + 1 + 1, o8) :: (L + 1 + 1 + 1 + 1 + 1 + 1 + 1, o7) :: (L + 1 + 1 + 1 + 1 + 1 + 1, o6) :: (L + 1 + 1 + 1 + 1 + 1, o5) :: (L + 1 + 1 + 1 + 1, o4) :: (L + 1 + 1 + 1, o3) :: (L + 1 + 1, o2) :: (L + 1, o1) :: (652, tabObj (((#[] ++ #[rawInt ((403 : Nat) : Int), rawInt ((45 : Nat) : Int), Value.ref k1]) ++ #[rawInt ((404 : Nat) : Int), rawInt ((46 : Nat) : Int), Value.ref k2]) ++ #[rawInt ((416 : Nat) : Int), rawInt ((43 : Nat) : Int), Value.ref k3])) :: []) (as := [L + 1 + 1 + 1 + 1 + 1 + 1 + 1 + 1 + 1, L + 1 + 1 + 1 + 1 + 1 + 1 + 1 + 1, L + 1 + 1 + 1 + 1 + 1 + 1 + 1, L + 1 + 1 + 1 + 1 + 1 + 1, L + 1 + 1 + 1 + 1 + 1, L + 1 + 1 + 1 + 1, L + 1 + 1 + 1, L + 1 + 1, L + 1, 652]) (fun z hz q hq => by rw [List.mem_singleton.mp hq]; exact fun e => hD z (List.mem_append_left ((td, listOf (tps.map Value.ref).toArray nt) :: (fl, listOf yf.toArray n5) :: (vl, listOf yv.toArray n4) :: (al, listOf ya.toArray n3) :: (cl, listOf (cs.map Value.ref).toArray n1) :: (tyl, listOf (ts.map Value.ref).toArray n2) :: wl) hz) e.symm) rfl
    have ht2 : ∀ q ∈ [(D, listOf ys.toArray ys.length)], q.1 ≠ td := fun q hq => by rw [List.mem_singleton.mp hq]; exact fun e => hD (td, listOf (tps.map Value.ref).toArray nt) (by simp) e.symm
    have N₂ : News g L h ((L + 1 + 1 + 1 + 1 + 1 + 1 + 1 + 1 + 1, o9) :: (L + 1 + 1 + 1 + 1 + 1 + 1 + 1 + 1, o8) :: (L + 1 + 1 + 1 + 1 + 1 + 1 + 1, o7) :: (L + 1 + 1 + 1 + 1 + 1 + 1, o6) :: (L + 1 + 1 + 1 + 1 + 1, o5) :: (L + 1 + 1 + 1 + 1, o4) :: (L + 1 + 1 + 1, o3) :: (L + 1 + 1, o2) :: (L + 1, o1) :: (652, tabObj (((#[] ++ #[rawInt ((403 : Nat) : Int), rawInt ((45 : Nat) : Int), Value.ref k1]) ++ #[rawInt ((404 : Nat) : Int), rawInt ((46 : Nat) : Int), Value.ref k2]) ++ #[rawInt ((416 : Nat) : Int), rawInt ((43 : Nat) : Int), Value.ref k3])) :: (td, listOf (tps.map Value.ref).toArray nt) :: (fl, listOf yf.toArray n5) :: (vl, listOf yv.toArray n4) :: (al, listOf ya.toArray n3) :: (cl, listOf (cs.map Value.ref).toArray n1) :: (tyl, listOf (ts.map Value.ref).toArray n2) :: ([(D, listOf ys.toArray ys.length)] ++ wl)) := news_tail (tl := [(D, listOf ys.toArray ys.length)]) (P := (L + 1 + 1 + 1 + 1 + 1 + 1 + 1 + 1 + 1, o9) :: (L + 1 + 1 + 1 + 1 + 1 + 1 + 1 + 1, o8) :: (L + 1 + 1 + 1 + 1 + 1 + 1 + 1, o7) :: (L + 1 + 1 + 1 + 1 + 1 + 1, o6) :: (L + 1 + 1 + 1 + 1 + 1, o5) :: (L + 1 + 1 + 1 + 1, o4) :: (L + 1 + 1 + 1, o3) :: (L + 1 + 1, o2) :: (L + 1, o1) :: (652, tabObj (((#[] ++ #[rawInt ((403 : Nat) : Int), rawInt ((45 : Nat) : Int), Value.ref k1]) ++ #[rawInt ((404 : Nat) : Int), rawInt ((46 : Nat) : Int), Value.ref k2]) ++ #[rawInt ((416 : Nat) : Int), rawInt ((43 : Nat) : Int), Value.ref k3])) :: (td, listOf (tps.map Value.ref).toArray nt) :: (fl, listOf yf.toArray n5) :: (vl, listOf yv.toArray n4) :: (al, listOf ya.toArray n3) :: (cl, listOf (cs.map Value.ref).toArray n1) :: (tyl, listOf (ts.map Value.ref).toArray n2) :: []) N₁
    clear N₁
    replace N₂ : News g L h ((L + 1 + 1 + 1 + 1 + 1 + 1 + 1 + 1 + 1, o9) :: (L + 1 + 1 + 1 + 1 + 1 + 1 + 1 + 1, o8) :: (L + 1 + 1 + 1 + 1 + 1 + 1 + 1, o7) :: (L + 1 + 1 + 1 + 1 + 1 + 1, o6) :: (L + 1 + 1 + 1 + 1 + 1, o5) :: (L + 1 + 1 + 1 + 1, o4) :: (L + 1 + 1 + 1, o3) :: (L + 1 + 1, o2) :: (L + 1, o1) :: (652, tabObj (((#[] ++ #[rawInt ((403 : Nat) : Int), rawInt ((45 : Nat) : Int), Value.ref k1]) ++ #[rawInt ((404 : Nat) : Int), rawInt ((46 : Nat) : Int), Value.ref k2]) ++ #[rawInt ((416 : Nat) : Int), rawInt ((43 : Nat) : Int), Value.ref k3])) :: (td, listOf (tps.map Value.ref).toArray nt) :: (fl, listOf yf.toArray n5) :: (vl, listOf yv.toArray n4) :: (al, listOf ya.toArray n3) :: (cl, listOf (cs.map Value.ref).toArray n1) :: (tyl, listOf (ts.map Value.ref).toArray n2) :: (D, listOf ys.toArray ys.length) :: wl) := N₂
    have W' := W.more hc2
    have T' := T.more ht2 hc2
    have z5 : @Ne Nat D (L + 1 + 1 + 1 + 1 + 1 + 1 + 1) := hc2 _ (by simp) _ (.head _)
    repeat ((fail_if_success (with_reducible show wpAny _ _ (execs _ _) _ _ _)); (first | (k_unfold; (try dsimp only)) | walk1 | (dsimp only; walk1)))
    exact next _ _ _ D ys _ hys (by assumption) W' T' (by assumption) (by assumption)
end Mine

section
open PySem.Spec
namespace Mine
set_option maxRecDepth 100000
section
variable {prog : Program} {w : World} {A : Around} {E : Value → Shared → Prop} {s : Shared}
theorem item_last2 {value slice : PySem.Expr} {l : Addr} {vs : List Value} {v : Value} {u : Tok} {Q : Value → Shared → Prop} (hl : s.heap.IsList l (vs ++ [v]).toArray) (h : Q v s)
    (hs : subscripted slice false (.ref l) (.int (-1) u) = operate [.ref l, .int (-1) u] (getItem (.ref l) (.int (-1) u)) := by with_unfolding_all rfl) : wpAny (model prog w) A (subscriptTail value slice (.ref l) (.int (-1) u)) Q E s :=
  tail_any hl.typeIs slot_list_getitem.lookup (wpAny_getItem_list_neg hl (by decide) (by simp only [List.size_toArray, List.length_append, List.length_singleton]; omega) (by decide) (by
    simp only [List.size_toArray, List.length_append, List.length_singleton]
    rw [show ((-1 : Int) + ((vs.length + 1 : Nat) : Int)).toNat = vs.length by omega]
    simp) h) hs
end
theorem nats_last {ys : List Value} {l : List Nat} {k : Nat} (h : NatsAre ys (l ++ [k])) : ∃ yi t, ys = yi ++ [.int (k : Nat) t] := by
  have hl := nats_len h
  have hn : l.length < ys.length := by rw [hl, List.length_append]; exact Nat.lt_succ_self _
  obtain ⟨k', t, e1, e2⟩ := nats_at h (List.getElem?_eq_getElem hn)
  rw [List.getElem?_append_right (Nat.le_refl _), Nat.sub_self] at e1
  have : k = k' := by simpa using e1
  subst this
  refine ⟨ys.take l.length, t, ?_⟩
  have hd : ys.drop l.length = [ys[l.length]] := by rw [List.drop_eq_getElem_cons hn, List.drop_eq_nil_of_le (by rw [hl, List.length_append]; exact Nat.le_refl _)]
  rw [← e2, ← hd, List.take_append_drop]
theorem LawW.perm {chs : List (List Nat)} {cs ts : List Addr} {cl tyl : Addr} {n1 n2 : Nat} {wl : List (Addr × Obj)} {L : Addr} {wl' : List (Addr × Obj)} (W : LawW chs cs ts cl tyl n1 n2 wl L) (h : ∀ q, q ∈ wl ↔ q ∈ wl') : LawW chs cs ts cl tyl n1 n2 wl' L :=
  ⟨W.hgd, W.hlc, fun At hAt => W.hwd At fun q hq => hAt q ((h q).mp hq), W.hcs, W.hts, W.h652, fun a ha q hq => by
    rcases List.mem_cons.mp hq with rfl | hq
    · exact W.hof a ha _ (.head _)
    · rcases List.mem_cons.mp hq with rfl | hq
      · exact W.hof a ha _ (.tail _ (.head _))
      · exact W.hof a ha q (.tail _ (.tail _ ((h q).mpr hq)))⟩
theorem LawT.perm {L td fl vl al cl tyl : Addr} {wl wl' : List (Addr × Obj)} (T : LawT L td fl vl al cl tyl wl) (h : ∀ q, q ∈ wl ↔ q ∈ wl') : LawT L td fl vl al cl tyl wl' :=
  ⟨T.ctd, T.otd, fun q hq => T.wtd q ((h q).mpr hq), T.oc, fun a ha q hq => T.wc a ha q ((h q).mpr hq)⟩
theorem mem_mid {x : Addr × Obj} {tl wl : List (Addr × Obj)} : ∀ q, q ∈ tl ++ (x :: wl) ↔ q ∈ x :: (tl ++ wl) := fun q => by
  simp only [List.mem_append, List.mem_cons]
  constructor
  · rintro (h | h | h) <;> simp [h]
  · rintro (h | h | h) <;> simp [h]
end Mine
end
local macro_rules | `(tactic| walk_at "subscriptTail") => `(tactic| (k_here; (with_reducible show wpAny _ _ (subscriptTail _ _ (Value.ref _) (Value.int (-1) _)) _ _ _); k_dflt (refine' Mine.item_last2 ?k1 ?_ ?k6; (case k1 => (refine' News.isList ?g ?i; (case g => k_asm); (case i => k_mem))); (case k6 => with_unfolding_all rfl); k_whole)))
namespace Mine
set_option maxRecDepth 100000
set_option maxHeartbeats 8000000
variable {w : World} {p : Program} {loose : List Str} {mean : ExcName → Option Value} {mg mb : Str → Option Value} {qual : Str} {body : List Stmt} {scope : Scope} {g base : Heap} {L sc fa : Addr} {vs : List Value} {ns : List Int}
theorem jn0 (c : LawCtx w p loose mean mg mb qual body scope g base L sc vs ns) {s : Shared} {Q : Flow → Shared → Prop} {E : Value → Shared → Prop} {o1 o2 o3 o4 o5 o6 o7 o8 o9 : Obj} {u : Str → Option Value} {chs : List (List Nat)} {cs ts : List Addr} {cl tyl : Addr} {n1 n2 : Nat} {wl : List (Addr × Obj)} {al vl ow fl td : Addr} {ya yv yf : List Value} {n3 n4 n5 nt : Nat} {fits : Bool} {k1 k2 : Addr} {tps : List Addr} {l : List Nat} {k3 sl : Addr} {yi : List Value} {n6 i0 : Nat} {t0 : Tok} (W : LawW chs cs ts cl tyl n1 n2 ((sl, listOf (yi ++ [Value.int (i0 : Nat) t0]).toArray n6) :: wl) L) (T : LawT L td fl vl al cl tyl ((sl, listOf (yi ++ [Value.int (i0 : Nat) t0]).toArray n6) :: wl)) (hi0 : i0 < chs.length) (d3 : cdat o3 (some (.ref tyl))) (d7 : cdat o7 (some (.ref sl)))
    (F : Fr g L s.heap (fun y => if y = Str.ofString "own" then some (.ref ow) else if y = Str.ofString "fits" then some (.bool fits) else u y)) (N : News g L s.heap ((L + 1 + 1 + 1 + 1 + 1 + 1 + 1 + 1 + 1, o9) :: (L + 1 + 1 + 1 + 1 + 1 + 1 + 1 + 1, o8) :: (L + 1 + 1 + 1 + 1 + 1 + 1 + 1, o7) :: (L + 1 + 1 + 1 + 1 + 1 + 1, o6) :: (L + 1 + 1 + 1 + 1 + 1, o5) :: (L + 1 + 1 + 1 + 1, o4) :: (L + 1 + 1 + 1, o3) :: (L + 1 + 1, o2) :: (L + 1, o1) :: (652, tabObj (((#[] ++ #[rawInt ((403 : Nat) : Int), rawInt ((45 : Nat) : Int), Value.ref k1]) ++ #[rawInt ((404 : Nat) : Int), rawInt ((46 : Nat) : Int), Value.ref k2]) ++ #[rawInt ((416 : Nat) : Int), rawInt ((43 : Nat) : Int), Value.ref k3])) :: (td, listOf (tps.map Value.ref).toArray nt) :: (fl, listOf yf.toArray n5) :: (vl, listOf yv.toArray n4) :: (al, listOf ya.toArray n3) :: (cl, listOf (cs.map Value.ref).toArray n1) :: (tyl, listOf (ts.map Value.ref).toArray n2) :: (sl, listOf (yi ++ [Value.int (i0 : Nat) t0]).toArray n6) :: wl))
    (next : ∀ h' tk ot tl, LawW chs cs ts cl tyl n1 n2 ((sl, listOf (yi ++ [Value.int (i0 : Nat) t0]).toArray n6) :: (tl ++ wl)) L → LawT L td fl vl al cl tyl ((sl, listOf (yi ++ [Value.int (i0 : Nat) t0]).toArray n6) :: (tl ++ wl)) →
      (∀ At : Addr → Obj → Prop, (∀ q ∈ tl ++ wl, At q.1 q.2) → TvAt At ot (Str.ofString "U") (tyL ts [i0]) (ts.getD 0 0)) →
      Fr g L h' (fun y => if y = Str.ofString "alone" then some (.ref ot) else if y = Str.ofString "own" then some (.ref ow) else if y = Str.ofString "fits" then some (.bool fits) else u y) → News g L h' ((L + 1 + 1 + 1 + 1 + 1 + 1 + 1 + 1 + 1, o9) :: (L + 1 + 1 + 1 + 1 + 1 + 1 + 1 + 1, o8) :: (L + 1 + 1 + 1 + 1 + 1 + 1 + 1, o7) :: (L + 1 + 1 + 1 + 1 + 1 + 1, o6) :: (L + 1 + 1 + 1 + 1 + 1, o5) :: (L + 1 + 1 + 1 + 1, o4) :: (L + 1 + 1 + 1, o3) :: (L + 1 + 1, o2) :: (L + 1, o1) :: (652, tabObj (((#[] ++ #[rawInt ((403 : Nat) : Int), rawInt ((45 : Nat) : Int), Value.ref k1]) ++ #[rawInt ((404 : Nat) : Int), rawInt ((46 : Nat) : Int), Value.ref k2]) ++ #[rawInt ((416 : Nat) : Int), rawInt ((43 : Nat) : Int), Value.ref k3])) :: (td, listOf (tps.map Value.ref).toArray nt) :: (fl, listOf yf.toArray n5) :: (vl, listOf yv.toArray n4) :: (al, listOf ya.toArray n3) :: (cl, listOf (cs.map Value.ref).toArray n1) :: (tyl, listOf (ts.map Value.ref).toArray n2) :: (sl, listOf (yi ++ [Value.int (i0 : Nat) t0]).toArray n6) :: (tl ++ wl)) → wpAny (model PG w) (callerA.deeper (lawEnv qual scope L fa)) (execs ((ifBody ((ifBody (body.drop 15)).drop 3)).drop 1) (lawEnv qual scope L fa)) Q E { s with heap := h', toks := tk }) :
    wpAny (model PG w) (callerA.deeper (lawEnv qual scope L fa)) (execs ((ifBody ((ifBody (body.drop 15)).drop 3)).drop 0) (lawEnv qual scope L fa)) Q E s := by
  obtain ⟨hf, K, X, TP, hl, hI, hlen, hC⟩ := c
  obtain ⟨name, params, dV, kV, doc, pm, an, cdv, ct, oc, od, osl, hf⟩ := hf
  have hf2 : (hd.heap_39 w.params).lookup 655 = some ⟨_, _, .func (fnOf _ _ _ _ _ _ _ _ _ _ _ _), _⟩ := rfl
  rw [hf2] at hf
  cases hf
  clear hf2
  dsimp only [List.drop, ifBody]
  have hcs := W.hcs
  have hts := W.hts
  have hlc := W.hlc
  have h652 := W.h652
  have hpos := W.hgd.pos
  repeat ((fail_if_success (with_reducible show wpAny _ _ (call (Value.ref 161) _ _) _ _ _)); (first | (k_unfold; (try dsimp only)) | walk1 | (dsimp only; walk1)))
  rename News _ _ _ _ => Nx
  (k_dflt (refine' Mine.Makes.use Mine.new_id_does ?k1 ?k2 ?k3 ?k4 ?k5 ?k6 ?k7 ?k8 ?k9 ?_); (case k1 => k_asm); (case k2 => k_asm); (case k3 => k_asm); (case k4 => k_asm); (case k5 => k_asm); (case k6 => exact rfl); (case k7 => exact fun _ _ => trivial); (case k8 => k_room); (case k9 => k_units))
  intro _ tl1 h' tk' F' N' G' S' hR'
  obtain ⟨xi, rfl, hxi⟩ := hR'
  have hc1 := off_adr (tl := tl1) (l := (L + 1 + 1 + 1 + 1 + 1 + 1 + 1 + 1 + 1, o9) :: (L + 1 + 1 + 1 + 1 + 1 + 1 + 1 + 1, o8) :: (L + 1 + 1 + 1 + 1 + 1 + 1 + 1, o7) :: (L + 1 + 1 + 1 + 1 + 1 + 1, o6) :: (L + 1 + 1 + 1 + 1 + 1, o5) :: (L + 1 + 1 + 1 + 1, o4) :: (L + 1 + 1 + 1, o3) :: (L + 1 + 1, o2) :: (L + 1, o1) :: (652, tabObj (((#[] ++ #[rawInt ((403 : Nat) : Int), rawInt ((45 : Nat) : Int), Value.ref k1]) ++ #[rawInt ((404 : Nat) : Int), rawInt ((46 : Nat) : Int), Value.ref k2]) ++ #[rawInt ((416 : Nat) : Int), rawInt ((43 : Nat) : Int), Value.ref k3])) :: []) (as := [L + 1 + 1 + 1 + 1 + 1 + 1 + 1 + 1 + 1, L + 1 + 1 + 1 + 1 + 1 + 1 + 1 + 1, L + 1 + 1 + 1 + 1 + 1 + 1 + 1, L + 1 + 1 + 1 + 1 + 1 + 1, L + 1 + 1 + 1 + 1 + 1, L + 1 + 1 + 1 + 1, L + 1 + 1 + 1, L + 1 + 1, L + 1, 652]) (fun z hz => off_of_fresh Nx S' (p := z) (List.mem_append_left ((td, listOf (tps.map Value.ref).toArray nt) :: (fl, listOf yf.toArray n5) :: (vl, listOf yv.toArray n4) :: (al, listOf ya.toArray n3) :: (cl, listOf (cs.map Value.ref).toArray n1) :: (tyl, listOf (ts.map Value.ref).toArray n2) :: (sl, listOf (yi ++ [Value.int (i0 : Nat) t0]).toArray n6) :: wl) hz)) rfl
  have ht1 := off_of_fresh (tl := tl1) Nx S' (p := (td, listOf (tps.map Value.ref).toArray nt)) (by simp)
  have N₁ : News g L h' ((L + 1 + 1 + 1 + 1 + 1 + 1 + 1 + 1 + 1, o9) :: (L + 1 + 1 + 1 + 1 + 1 + 1 + 1 + 1, o8) :: (L + 1 + 1 + 1 + 1 + 1 + 1 + 1, o7) :: (L + 1 + 1 + 1 + 1 + 1 + 1, o6) :: (L + 1 + 1 + 1 + 1 + 1, o5) :: (L + 1 + 1 + 1 + 1, o4) :: (L + 1 + 1 + 1, o3) :: (L + 1 + 1, o2) :: (L + 1, o1) :: (652, tabObj (((#[] ++ #[rawInt ((403 : Nat) : Int), rawInt ((45 : Nat) : Int), Value.ref k1]) ++ #[rawInt ((404 : Nat) : Int), rawInt ((46 : Nat) : Int), Value.ref k2]) ++ #[rawInt ((416 : Nat) : Int), rawInt ((43 : Nat) : Int), Value.ref k3])) :: (td, listOf (tps.map Value.ref).toArray nt) :: (fl, listOf yf.toArray n5) :: (vl, listOf yv.toArray n4) :: (al, listOf ya.toArray n3) :: (cl, listOf (cs.map Value.ref).toArray n1) :: (tyl, listOf (ts.map Value.ref).toArray n2) :: (sl, listOf (yi ++ [Value.int (i0 : Nat) t0]).toArray n6) :: (tl1 ++ wl)) := news_tail (P := (L + 1 + 1 + 1 + 1 + 1 + 1 + 1 + 1 + 1, o9) :: (L + 1 + 1 + 1 + 1 + 1 + 1 + 1 + 1, o8) :: (L + 1 + 1 + 1 + 1 + 1 + 1 + 1, o7) :: (L + 1 + 1 + 1 + 1 + 1 + 1, o6) :: (L + 1 + 1 + 1 + 1 + 1, o5) :: (L + 1 + 1 + 1 + 1, o4) :: (L + 1 + 1 + 1, o3) :: (L + 1 + 1, o2) :: (L + 1, o1) :: (652, tabObj (((#[] ++ #[rawInt ((403 : Nat) : Int), rawInt ((45 : Nat) : Int), Value.ref k1]) ++ #[rawInt ((404 : Nat) : Int), rawInt ((46 : Nat) : Int), Value.ref k2]) ++ #[rawInt ((416 : Nat) : Int), rawInt ((43 : Nat) : Int), Value.ref k3])) :: (td, listOf (tps.map Value.ref).toArray nt) :: (fl, listOf yf.toArray n5) :: (vl, listOf yv.toArray n4) :: (al, listOf ya.toArray n3) :: (cl, listOf (cs.map Value.ref).toArray n1) :: (tyl, listOf (ts.map Value.ref).toArray n2) :: (sl, listOf (yi ++ [Value.int (i0 : Nat) t0]).toArray n6) :: []) N'
  clear N' Nx
  repeat ((fail_if_success (with_reducible show wpAny _ _ (newList [Value.ref _]) _ _ _)); (first | (k_unfold; (try dsimp only)) | walk1 | (dsimp only; walk1)))
  rename Fr _ _ _ _ => Fr0
  rename News _ _ _ _ => Nr0
  k_dflt (refine newList_lt Fr0 Nr0 ?_ (Nat.le_of_ble_eq_true rfl))
  intro D h' F' N' l1 lx
  clear Fr0 Nr0
  have hc2 := off_adr (tl := [(D, listOf #[Value.ref (ts.getD i0 0)] 0)]) (l := (L + 1 + 1 + 1 + 1 + 1 + 1 + 1 + 1 + 1, o9) :: (L + 1 + 1 + 1 + 1 + 1 + 1 + 1 + 1, o8) :: (L + 1 + 1 + 1 + 1 + 1 + 1 + 1, o7) :: (L + 1 + 1 + 1 + 1 + 1 + 1, o6) :: (L + 1 + 1 + 1 + 1 + 1, o5) :: (L + 1 + 1 + 1 + 1, o4) :: (L + 1 + 1 + 1, o3) :: (L + 1 + 1, o2) :: (L + 1, o1) :: (652, tabObj (((#[] ++ #[rawInt ((403 : Nat) : Int), rawInt ((45 : Nat) : Int), Value.ref k1]) ++ #[rawInt ((404 : Nat) : Int), rawInt ((46 : Nat) : Int), Value.ref k2]) ++ #[rawInt ((416 : Nat) : Int), rawInt ((43 : Nat) : Int), Value.ref k3])) :: []) (as := [L + 1 + 1 + 1 + 1 + 1 + 1 + 1 + 1 + 1, L + 1 + 1 + 1 + 1 + 1 + 1 + 1 + 1, L + 1 + 1 + 1 + 1 + 1 + 1 + 1, L + 1 + 1 + 1 + 1 + 1 + 1, L + 1 + 1 + 1 + 1 + 1, L + 1 + 1 + 1 + 1, L + 1 + 1 + 1, L + 1 + 1, L + 1, 652]) (fun z hz q hq => by rw [List.mem_singleton.mp hq]; exact Nat.ne_of_gt (l1 z (List.mem_append_left ((td, listOf (tps.map Value.ref).toArray nt) :: (fl, listOf yf.toArray n5) :: (vl, listOf yv.toArray n4) :: (al, listOf ya.toArray n3) :: (cl, listOf (cs.map Value.ref).toArray n1) :: (tyl, listOf (ts.map Value.ref).toArray n2) :: (sl, listOf (yi ++ [Value.int (i0 : Nat) t0]).toArray n6) :: (tl1 ++ wl)) hz))) rfl
  have ht2 : ∀ q ∈ [(D, listOf #[Value.ref (ts.getD i0 0)] 0)], q.1 ≠ td := fun q hq => by rw [List.mem_singleton.mp hq]; exact Nat.ne_of_gt (l1 (td, listOf (tps.map Value.ref).toArray nt) (by simp))
  have N₃ : News g L h' ((L + 1 + 1 + 1 + 1 + 1 + 1 + 1 + 1 + 1, o9) :: (L + 1 + 1 + 1 + 1 + 1 + 1 + 1 + 1, o8) :: (L + 1 + 1 + 1 + 1 + 1 + 1 + 1, o7) :: (L + 1 + 1 + 1 + 1 + 1 + 1, o6) :: (L + 1 + 1 + 1 + 1 + 1, o5) :: (L + 1 + 1 + 1 + 1, o4) :: (L + 1 + 1 + 1, o3) :: (L + 1 + 1, o2) :: (L + 1, o1) :: (652, tabObj (((#[] ++ #[rawInt ((403 : Nat) : Int), rawInt ((45 : Nat) : Int), Value.ref k1]) ++ #[rawInt ((404 : Nat) : Int), rawInt ((46 : Nat) : Int), Value.ref k2]) ++ #[rawInt ((416 : Nat) : Int), rawInt ((43 : Nat) : Int), Value.ref k3])) :: (td, listOf (tps.map Value.ref).toArray nt) :: (fl, listOf yf.toArray n5) :: (vl, listOf yv.toArray n4) :: (al, listOf ya.toArray n3) :: (cl, listOf (cs.map Value.ref).toArray n1) :: (tyl, listOf (ts.map Value.ref).toArray n2) :: (sl, listOf (yi ++ [Value.int (i0 : Nat) t0]).toArray n6) :: ([(D, listOf #[Value.ref (ts.getD i0 0)] 0)] ++ (tl1 ++ wl))) := news_tail (tl := [(D, listOf #[Value.ref (ts.getD i0 0)] 0)]) (P := (L + 1 + 1 + 1 + 1 + 1 + 1 + 1 + 1 + 1, o9) :: (L + 1 + 1 + 1 + 1 + 1 + 1 + 1 + 1, o8) :: (L + 1 + 1 + 1 + 1 + 1 + 1 + 1, o7) :: (L + 1 + 1 + 1 + 1 + 1 + 1, o6) :: (L + 1 + 1 + 1 + 1 + 1, o5) :: (L + 1 + 1 + 1 + 1, o4) :: (L + 1 + 1 + 1, o3) :: (L + 1 + 1, o2) :: (L + 1, o1) :: (652, tabObj (((#[] ++ #[rawInt ((403 : Nat) : Int), rawInt ((45 : Nat) : Int), Value.ref k1]) ++ #[rawInt ((404 : Nat) : Int), rawInt ((46 : Nat) : Int), Value.ref k2]) ++ #[rawInt ((416 : Nat) : Int), rawInt ((43 : Nat) : Int), Value.ref k3])) :: (td, listOf (tps.map Value.ref).toArray nt) :: (fl, listOf yf.toArray n5) :: (vl, listOf yv.toArray n4) :: (al, listOf ya.toArray n3) :: (cl, listOf (cs.map Value.ref).toArray n1) :: (tyl, listOf (ts.map Value.ref).toArray n2) :: (sl, listOf (yi ++ [Value.int (i0 : Nat) t0]).toArray n6) :: []) N'
  clear N'
  repeat ((fail_if_success (with_reducible show wpAny _ _ (call (Value.ref 204) _ _) _ _ _)); (first | (k_unfold; (try dsimp only)) | walk1 | (dsimp only; walk1)))
  rename News _ _ _ _ => Nx
  (k_dflt (refine' Mine.Makes.use Mine.new_tv_does ?k1 ?k2 ?k3 ?k4 ?k5 ?k6 ?k7 ?k8 ?k9 ?_); (case k1 => k_asm); (case k2 => k_asm); (case k3 => k_asm); (case k4 => k_asm); (case k5 => k_asm); (case k6 => exact rfl); (case k7 => exact fun _ _ => trivial); (case k8 => k_room); (case k9 => k_units))
  intro _ tl3 h' tk' F' N' G' S' hR'
  obtain ⟨ot, rfl, hx⟩ := hR'
  have hc3 := off_adr (tl := tl3) (l := (L + 1 + 1 + 1 + 1 + 1 + 1 + 1 + 1 + 1, o9) :: (L + 1 + 1 + 1 + 1 + 1 + 1 + 1 + 1, o8) :: (L + 1 + 1 + 1 + 1 + 1 + 1 + 1, o7) :: (L + 1 + 1 + 1 + 1 + 1 + 1, o6) :: (L + 1 + 1 + 1 + 1 + 1, o5) :: (L + 1 + 1 + 1 + 1, o4) :: (L + 1 + 1 + 1, o3) :: (L + 1 + 1, o2) :: (L + 1, o1) :: (652, tabObj (((#[] ++ #[rawInt ((403 : Nat) : Int), rawInt ((45 : Nat) : Int), Value.ref k1]) ++ #[rawInt ((404 : Nat) : Int), rawInt ((46 : Nat) : Int), Value.ref k2]) ++ #[rawInt ((416 : Nat) : Int), rawInt ((43 : Nat) : Int), Value.ref k3])) :: []) (as := [L + 1 + 1 + 1 + 1 + 1 + 1 + 1 + 1 + 1, L + 1 + 1 + 1 + 1 + 1 + 1 + 1 + 1, L + 1 + 1 + 1 + 1 + 1 + 1 + 1, L + 1 + 1 + 1 + 1 + 1 + 1, L + 1 + 1 + 1 + 1 + 1, L + 1 + 1 + 1 + 1, L + 1 + 1 + 1, L + 1 + 1, L + 1, 652]) (fun z hz => off_of_fresh Nx S' (p := z) (List.mem_append_left ((td, listOf (tps.map Value.ref).toArray nt) :: (fl, listOf yf.toArray n5) :: (vl, listOf yv.toArray n4) :: (al, listOf ya.toArray n3) :: (cl, listOf (cs.map Value.ref).toArray n1) :: (tyl, listOf (ts.map Value.ref).toArray n2) :: (sl, listOf (yi ++ [Value.int (i0 : Nat) t0]).toArray n6) :: ([(D, listOf #[Value.ref (ts.getD i0 0)] 0)] ++ (tl1 ++ wl))) hz)) rfl
  have ht3 := off_of_fresh (tl := tl3) Nx S' (p := (td, listOf (tps.map Value.ref).toArray nt)) (by simp)
  have N₄ : News g L h' ((L + 1 + 1 + 1 + 1 + 1 + 1 + 1 + 1 + 1, o9) :: (L + 1 + 1 + 1 + 1 + 1 + 1 + 1 + 1, o8) :: (L + 1 + 1 + 1 + 1 + 1 + 1 + 1, o7) :: (L + 1 + 1 + 1 + 1 + 1 + 1, o6) :: (L + 1 + 1 + 1 + 1 + 1, o5) :: (L + 1 + 1 + 1 + 1, o4) :: (L + 1 + 1 + 1, o3) :: (L + 1 + 1, o2) :: (L + 1, o1) :: (652, tabObj (((#[] ++ #[rawInt ((403 : Nat) : Int), rawInt ((45 : Nat) : Int), Value.ref k1]) ++ #[rawInt ((404 : Nat) : Int), rawInt ((46 : Nat) : Int), Value.ref k2]) ++ #[rawInt ((416 : Nat) : Int), rawInt ((43 : Nat) : Int), Value.ref k3])) :: (td, listOf (tps.map Value.ref).toArray nt) :: (fl, listOf yf.toArray n5) :: (vl, listOf yv.toArray n4) :: (al, listOf ya.toArray n3) :: (cl, listOf (cs.map Value.ref).toArray n1) :: (tyl, listOf (ts.map Value.ref).toArray n2) :: (sl, listOf (yi ++ [Value.int (i0 : Nat) t0]).toArray n6) :: (tl3 ++ ([(D, listOf #[Value.ref (ts.getD i0 0)] 0)] ++ (tl1 ++ wl)))) := news_tail (P := (L + 1 + 1 + 1 + 1 + 1 + 1 + 1 + 1 + 1, o9) :: (L + 1 + 1 + 1 + 1 + 1 + 1 + 1 + 1, o8) :: (L + 1 + 1 + 1 + 1 + 1 + 1 + 1, o7) :: (L + 1 + 1 + 1 + 1 + 1 + 1, o6) :: (L + 1 + 1 + 1 + 1 + 1, o5) :: (L + 1 + 1 + 1 + 1, o4) :: (L + 1 + 1 + 1, o3) :: (L + 1 + 1, o2) :: (L + 1, o1) :: (652, tabObj (((#[] ++ #[rawInt ((403 : Nat) : Int), rawInt ((45 : Nat) : Int), Value.ref k1]) ++ #[rawInt ((404 : Nat) : Int), rawInt ((46 : Nat) : Int), Value.ref k2]) ++ #[rawInt ((416 : Nat) : Int), rawInt ((43 : Nat) : Int), Value.ref k3])) :: (td, listOf (tps.map Value.ref).toArray nt) :: (fl, listOf yf.toArray n5) :: (vl, listOf yv.toArray n4) :: (al, listOf ya.toArray n3) :: (cl, listOf (cs.map Value.ref).toArray n1) :: (tyl, listOf (ts.map Value.ref).toArray n2) :: (sl, listOf (yi ++ [Value.int (i0 : Nat) t0]).toArray n6) :: []) N'
  clear N' Nx
  have hnx := next (tl := tl3 ++ ([(D, listOf #[Value.ref (ts.getD i0 0)] 0)] ++ tl1))
  rw [List.append_assoc, List.append_assoc] at hnx
  repeat ((fail_if_success (with_reducible show wpAny _ _ (execs _ _) _ _ _)); (first | (k_unfold; (try dsimp only)) | walk1 | (dsimp only; walk1)))
  refine hnx _ _ ot ?_ ?_ ?_ (by assumption) (by assumption)
  · refine (((W.more hc1).more hc2).more hc3).perm fun q => ?_
    simp only [List.mem_append, List.mem_cons, List.not_mem_nil, or_false]
    constructor
    · rintro (h | h | h | h | h) <;> simp [h]
    · rintro (h | h | h | h | h) <;> simp [h]
  · refine (((T.more ht1 hc1).more ht2 hc2).more ht3 hc3).perm fun q => ?_
    simp only [List.mem_append, List.mem_cons, List.not_mem_nil, or_false]
    constructor
    · rintro (h | h | h | h | h) <;> simp [h]
    · rintro (h | h | h | h | h) <;> simp [h]
  · intro At hAt
    exact hx At 3 (tyL ts [i0]) 0 (fun q hq => hAt q (List.mem_append_left _ hq)) (hxi At fun q hq => hAt q (List.mem_append_right _ (List.mem_append_right _ (List.mem_append_left _ hq)))) (hAt (D, _) (List.mem_append_right _ (List.mem_append_left _ (.head _))))
end Mine

namespace Mine
set_option maxRecDepth 100000
set_option maxHeartbeats 8000000
variable {w : World} {p : Program} {loose : List Str} {mean : ExcName → Option Value} {mg mb : Str → Option Value} {qual : Str} {body : List Stmt} {scope : Scope} {g base : Heap} {L sc fa : Addr} {vs : List Value} {ns : List Int}
theorem jn1 (c : LawCtx w p loose mean mg mb qual body scope g base L sc vs ns) {s : Shared} {Q : Flow → Shared → Prop} {E : Value → Shared → Prop} {o1 o2 o3 o4 o5 o6 o7 o8 o9 : Obj} {u : Str → Option Value} {chs : List (List Nat)} {cs ts : List Addr} {cl tyl : Addr} {n1 n2 : Nat} {wl : List (Addr × Obj)} {al vl ow fl td : Addr} {ya yv yf : List Value} {n3 n4 n5 nt : Nat} {fits : Bool} {k1 k2 : Addr} {tps : List Addr} {l : List Nat} {k3 sl : Addr} {yi : List Value} {n6 i0 : Nat} {t0 : Tok} (W : LawW chs cs ts cl tyl n1 n2 ((sl, listOf (yi ++ [Value.int (i0 : Nat) t0]).toArray n6) :: wl) L) (T : LawT L td fl vl al cl tyl ((sl, listOf (yi ++ [Value.int (i0 : Nat) t0]).toArray n6) :: wl)) {ot : Addr} {v8 : Option Value} (hi0 : i0 < chs.length) (hyl : NatsAre yv l) (hlt : ∀ k ∈ l, k < chs.length) (hll : l.length ≤ 4) (d1 : cdat o1 (some (.ref cl))) (d5 : cdat o5 (some (.ref vl))) (d7 : cdat o7 (some (.ref sl))) (d8 : cdat o8 v8)
    (F : Fr g L s.heap (fun y => if y = Str.ofString "alone" then some (.ref ot) else if y = Str.ofString "own" then some (.ref ow) else if y = Str.ofString "fits" then some (.bool fits) else u y)) (N : News g L s.heap ((L + 1 + 1 + 1 + 1 + 1 + 1 + 1 + 1 + 1, o9) :: (L + 1 + 1 + 1 + 1 + 1 + 1 + 1 + 1, o8) :: (L + 1 + 1 + 1 + 1 + 1 + 1 + 1, o7) :: (L + 1 + 1 + 1 + 1 + 1 + 1, o6) :: (L + 1 + 1 + 1 + 1 + 1, o5) :: (L + 1 + 1 + 1 + 1, o4) :: (L + 1 + 1 + 1, o3) :: (L + 1 + 1, o2) :: (L + 1, o1) :: (652, tabObj (((#[] ++ #[rawInt ((403 : Nat) : Int), rawInt ((45 : Nat) : Int), Value.ref k1]) ++ #[rawInt ((404 : Nat) : Int), rawInt ((46 : Nat) : Int), Value.ref k2]) ++ #[rawInt ((416 : Nat) : Int), rawInt ((43 : Nat) : Int), Value.ref k3])) :: (td, listOf (tps.map Value.ref).toArray nt) :: (fl, listOf yf.toArray n5) :: (vl, listOf yv.toArray n4) :: (al, listOf ya.toArray n3) :: (cl, listOf (cs.map Value.ref).toArray n1) :: (tyl, listOf (ts.map Value.ref).toArray n2) :: (sl, listOf (yi ++ [Value.int (i0 : Nat) t0]).toArray n6) :: wl))
    (next : ∀ h' tk o8 ov yo n7, NatsAre yo (l.filter fun k => (chs.getD i0 []).any (· == k)) → cdat o8 (some (.ref ov)) → LawW chs cs ts cl tyl n1 n2 ((sl, listOf (yi ++ [Value.int (i0 : Nat) t0]).toArray n6) :: (ov, listOf yo.toArray n7) :: wl) L → LawT L td fl vl al cl tyl ((sl, listOf (yi ++ [Value.int (i0 : Nat) t0]).toArray n6) :: (ov, listOf yo.toArray n7) :: wl) → Fr g L h' (fun y => if y = Str.ofString "alone" then some (.ref ot) else if y = Str.ofString "own" then some (.ref ow) else if y = Str.ofString "fits" then some (.bool fits) else u y) →
      News g L h' ((L + 1 + 1 + 1 + 1 + 1 + 1 + 1 + 1 + 1, o9) :: (L + 1 + 1 + 1 + 1 + 1 + 1 + 1 + 1, o8) :: (L + 1 + 1 + 1 + 1 + 1 + 1 + 1, o7) :: (L + 1 + 1 + 1 + 1 + 1 + 1, o6) :: (L + 1 + 1 + 1 + 1 + 1, o5) :: (L + 1 + 1 + 1 + 1, o4) :: (L + 1 + 1 + 1, o3) :: (L + 1 + 1, o2) :: (L + 1, o1) :: (652, tabObj (((#[] ++ #[rawInt ((403 : Nat) : Int), rawInt ((45 : Nat) : Int), Value.ref k1]) ++ #[rawInt ((404 : Nat) : Int), rawInt ((46 : Nat) : Int), Value.ref k2]) ++ #[rawInt ((416 : Nat) : Int), rawInt ((43 : Nat) : Int), Value.ref k3])) :: (td, listOf (tps.map Value.ref).toArray nt) :: (fl, listOf yf.toArray n5) :: (vl, listOf yv.toArray n4) :: (al, listOf ya.toArray n3) :: (cl, listOf (cs.map Value.ref).toArray n1) :: (tyl, listOf (ts.map Value.ref).toArray n2) :: (sl, listOf (yi ++ [Value.int (i0 : Nat) t0]).toArray n6) :: (ov, listOf yo.toArray n7) :: wl) → wpAny (model PG w) (callerA.deeper (lawEnv qual scope L fa)) (execs ((ifBody ((ifBody (body.drop 15)).drop 3)).drop 2) (lawEnv qual scope L fa)) Q E { s with heap := h', toks := tk }) :
    wpAny (model PG w) (callerA.deeper (lawEnv qual scope L fa)) (execs ((ifBody ((ifBody (body.drop 15)).drop 3)).drop 1) (lawEnv qual scope L fa)) Q E s := by
  obtain ⟨hf, K, X, TP, hl, hI, hlen, hC⟩ := c
  obtain ⟨name, params, dV, kV, doc, pm, an, cdv, ct, oc, od, osl, hf⟩ := hf
  have hf2 : (hd.heap_39 w.params).lookup 655 = some ⟨_, _, .func (fnOf _ _ _ _ _ _ _ _ _ _ _ _), _⟩ := rfl
  rw [hf2] at hf
  cases hf
  clear hf2
  dsimp only [List.drop, ifBody]
  have hcs := W.hcs
  have hts := W.hts
  have hlc := W.hlc
  have h652 := W.h652
  have hpos := W.hgd.pos
  have y0 : @Ne Nat fl (L + 1 + 1 + 1 + 1 + 1 + 1 + 1 + 1) := T.oc fl (by simp) _ (by simp)
  have y1 : @Ne Nat vl (L + 1 + 1 + 1 + 1 + 1 + 1 + 1 + 1) := T.oc vl (by simp) _ (by simp)
  have y2 : @Ne Nat al (L + 1 + 1 + 1 + 1 + 1 + 1 + 1 + 1) := T.oc al (by simp) _ (by simp)
  have y3 : @Ne Nat cl (L + 1 + 1 + 1 + 1 + 1 + 1 + 1 + 1) := T.oc cl (by simp) _ (by simp)
  have y4 : @Ne Nat tyl (L + 1 + 1 + 1 + 1 + 1 + 1 + 1 + 1) := T.oc tyl (by simp) _ (by simp)
  have y5 : @Ne Nat td (L + 1 + 1 + 1 + 1 + 1 + 1 + 1 + 1) := Nat.ne_of_gt (T.ctd _ (by simp))
  have y7 : @Ne Nat sl (L + 1 + 1 + 1 + 1 + 1 + 1 + 1 + 1) := T.wc _ (by simp) _ (.head _)
  have y6 : ∀ q ∈ wl, q.1 ≠ (L + 1 + 1 + 1 + 1 + 1 + 1 + 1 + 1) := fun q hq => T.wc _ (by simp) q (.tail _ hq)
  repeat ((fail_if_success (with_reducible show wpAny _ _ (eval (PySem.Expr.ListComp _ _ _ _) _) _ _ _)); (first | (k_unfold; (try dsimp only)) | walk1 | (dsimp only; walk1)))
  rename Fr _ _ _ _ => F₀
  rename News _ _ _ _ => N₀
  k_dflt (refine comp_I1 (fun i => (chs.getD i0 []).any (· == l.getD i 0)) (fun i => l.getD i 0) F₀ N₀ (by with_unfolding_all rfl) (by decide) rfl (by decide) (by rfl) ?_)
  repeat ((first | (with_reducible show wpAny _ _ _ _ _ _) | (with_reducible show PySem.W.Frag.In _ _ ∧ _)); (first | (k_unfold; (try dsimp only)) | walk1 | (dsimp only; walk1)))
  refine ⟨rfl, F₀, N₀, _, _, .led (by k_mem), by rw [List.size_toArray, nats_len hyl]; unfold sizeLine; omega, ?_, ?_⟩
  · intro i v I oI C oC D m₂ ys h tk E' hi hv hC hm F₂ N₂
    obtain ⟨k, t, hk, rfl⟩ := nats_at hyl (by simpa using hv)
    have hkl := hlt k (List.mem_of_getElem? hk)
    have hgk : l.getD i 0 = k := by rw [List.getD_eq_getElem?_getD, hk]; rfl
    clear F₀ N₀
    k_steps
    all_goals (first | (rw [hgk]; assumption) | (rw [hgk]; exact PureI.intro (by assumption) (news_drop1 (by assumption))) | exact Pure1.intro rfl (by assumption) (news_drop1 (by assumption)))
  · rintro D ys h tk hys F₁ N₁ hD
    clear F₀ N₀
    rw [show yv.toArray.size = l.length by rw [List.size_toArray, nats_len hyl], filter_getD l (fun k => (chs.getD i0 []).any (· == k)) 0] at hys
    have hc2 := off_adr (tl := [(D, listOf ys.toArray ys.length)]) (l := (L + 1 + 1 + 1 + 1 + 1 + 1 + 1 + 1 + 1, o9) :: (L + 1 + 1 + 1 + 1 + 1 + 1 + 1 + 1, o8) :: (L + 1 + 1 + 1 + 1 + 1 + 1 + 1, o7) :: (L + 1 + 1 + 1 + 1 + 1 + 1, o6) :: (L + 1 + 1 + 1 + 1 + 1, o5) :: (L + 1 + 1 + 1 + 1, o4) :: (L + 1 + 1 + 1, o3) :: (L + 1 + 1, o2) :: (L + 1, o1) :: (652, tabObj (((#[] ++ #[rawInt ((403 : Nat) : Int), rawInt ((45 : Nat) : Int), Value.ref k1]) ++ #[rawInt ((404 : Nat) : Int), rawInt ((46 : Nat) : Int), Value.ref k2]) ++ #[rawInt ((416 : Nat) : Int), rawInt ((43 : Nat) : Int), Value.ref k3])) :: []) (as := [L + 1 + 1 + 1 + 1 + 1 + 1 + 1 + 1 + 1, L + 1 + 1 + 1 + 1 + 1 + 1 + 1 + 1, L + 1 + 1 + 1 + 1 + 1 + 1 + 1, L + 1 + 1 + 1 + 1 + 1 + 1, L + 1 + 1 + 1 + 1 + 1, L + 1 + 1 + 1 + 1, L + 1 + 1 + 1, L + 1 + 1, L + 1, 652]) (fun z hz q hq => by rw [List.mem_singleton.mp hq]; exact fun e => hD z (List.mem_append_left ((td, listOf (tps.map Value.ref).toArray nt) :: (fl, listOf yf.toArray n5) :: (vl, listOf yv.toArray n4) :: (al, listOf ya.toArray n3) :: (cl, listOf (cs.map Value.ref).toArray n1) :: (tyl, listOf (ts.map Value.ref).toArray n2) :: (sl, listOf (yi ++ [Value.int (i0 : Nat) t0]).toArray n6) :: wl) hz) e.symm) rfl
    have ht2 : ∀ q ∈ [(D, listOf ys.toArray ys.length)], q.1 ≠ td := fun q hq => by rw [List.mem_singleton.mp hq]; exact fun e => hD (td, listOf (tps.map Value.ref).toArray nt) (by simp) e.symm
    have N₂ : News g L h ((L + 1 + 1 + 1 + 1 + 1 + 1 + 1 + 1 + 1, o9) :: (L + 1 + 1 + 1 + 1 + 1 + 1 + 1 + 1, o8) :: (L + 1 + 1 + 1 + 1 + 1 + 1 + 1, o7) :: (L + 1 + 1 + 1 + 1 + 1 + 1, o6) :: (L + 1 + 1 + 1 + 1 + 1, o5) :: (L + 1 + 1 + 1 + 1, o4) :: (L + 1 + 1 + 1, o3) :: (L + 1 + 1, o2) :: (L + 1, o1) :: (652, tabObj (((#[] ++ #[rawInt ((403 : Nat) : Int), rawInt ((45 : Nat) : Int), Value.ref k1]) ++ #[rawInt ((404 : Nat) : Int), rawInt ((46 : Nat) : Int), Value.ref k2]) ++ #[rawInt ((416 : Nat) : Int), rawInt ((43 : Nat) : Int), Value.ref k3])) :: (td, listOf (tps.map Value.ref).toArray nt) :: (fl, listOf yf.toArray n5) :: (vl, listOf yv.toArray n4) :: (al, listOf ya.toArray n3) :: (cl, listOf (cs.map Value.ref).toArray n1) :: (tyl, listOf (ts.map Value.ref).toArray n2) :: (sl, listOf (yi ++ [Value.int (i0 : Nat) t0]).toArray n6) :: ([(D, listOf ys.toArray ys.length)] ++ wl)) := news_tail (tl := [(D, listOf ys.toArray ys.length)]) (P := (L + 1 + 1 + 1 + 1 + 1 + 1 + 1 + 1 + 1, o9) :: (L + 1 + 1 + 1 + 1 + 1 + 1 + 1 + 1, o8) :: (L + 1 + 1 + 1 + 1 + 1 + 1 + 1, o7) :: (L + 1 + 1 + 1 + 1 + 1 + 1, o6) :: (L + 1 + 1 + 1 + 1 + 1, o5) :: (L + 1 + 1 + 1 + 1, o4) :: (L + 1 + 1 + 1, o3) :: (L + 1 + 1, o2) :: (L + 1, o1) :: (652, tabObj (((#[] ++ #[rawInt ((403 : Nat) : Int), rawInt ((45 : Nat) : Int), Value.ref k1]) ++ #[rawInt ((404 : Nat) : Int), rawInt ((46 : Nat) : Int), Value.ref k2]) ++ #[rawInt ((416 : Nat) : Int), rawInt ((43 : Nat) : Int), Value.ref k3])) :: (td, listOf (tps.map Value.ref).toArray nt) :: (fl, listOf yf.toArray n5) :: (vl, listOf yv.toArray n4) :: (al, listOf ya.toArray n3) :: (cl, listOf (cs.map Value.ref).toArray n1) :: (tyl, listOf (ts.map Value.ref).toArray n2) :: (sl, listOf (yi ++ [Value.int (i0 : Nat) t0]).toArray n6) :: []) N₁
    clear N₁
    replace N₂ : News g L h ((L + 1 + 1 + 1 + 1 + 1 + 1 + 1 + 1 + 1, o9) :: (L + 1 + 1 + 1 + 1 + 1 + 1 + 1 + 1, o8) :: (L + 1 + 1 + 1 + 1 + 1 + 1 + 1, o7) :: (L + 1 + 1 + 1 + 1 + 1 + 1, o6) :: (L + 1 + 1 + 1 + 1 + 1, o5) :: (L + 1 + 1 + 1 + 1, o4) :: (L + 1 + 1 + 1, o3) :: (L + 1 + 1, o2) :: (L + 1, o1) :: (652, tabObj (((#[] ++ #[rawInt ((403 : Nat) : Int), rawInt ((45 : Nat) : Int), Value.ref k1]) ++ #[rawInt ((404 : Nat) : Int), rawInt ((46 : Nat) : Int), Value.ref k2]) ++ #[rawInt ((416 : Nat) : Int), rawInt ((43 : Nat) : Int), Value.ref k3])) :: (td, listOf (tps.map Value.ref).toArray nt) :: (fl, listOf yf.toArray n5) :: (vl, listOf yv.toArray n4) :: (al, listOf ya.toArray n3) :: (cl, listOf (cs.map Value.ref).toArray n1) :: (tyl, listOf (ts.map Value.ref).toArray n2) :: (sl, listOf (yi ++ [Value.int (i0 : Nat) t0]).toArray n6) :: (D, listOf ys.toArray ys.length) :: wl) := N₂
    have W' := (W.more hc2).perm (mem_mid (x := (sl, listOf (yi ++ [Value.int (i0 : Nat) t0]).toArray n6)))
    have T' := (T.more ht2 hc2).perm (mem_mid (x := (sl, listOf (yi ++ [Value.int (i0 : Nat) t0]).toArray n6)))
    have z5 : @Ne Nat D (L + 1 + 1 + 1 + 1 + 1 + 1 + 1 + 1) := hc2 _ (by simp) _ (.head _)
    repeat ((fail_if_success (with_reducible show wpAny _ _ (execs _ _) _ _ _)); (first | (k_unfold; (try dsimp only)) | walk1 | (dsimp only; walk1)))
    exact next _ _ _ D ys _ hys (by assumption) W' T' (by assumption) (by assumption)
theorem jn2 (c : LawCtx w p loose mean mg mb qual body scope g base L sc vs ns) {s : Shared} {Q : Flow → Shared → Prop} {E : Value → Shared → Prop} {o1 o2 o3 o4 o5 o6 o7 o8 o9 : Obj} {u : Str → Option Value} {chs : List (List Nat)} {cs ts : List Addr} {cl tyl : Addr} {n1 n2 : Nat} {wl : List (Addr × Obj)} {al vl ow fl td : Addr} {ya yv yf : List Value} {n3 n4 n5 nt : Nat} {fits : Bool} {k1 k2 : Addr} {tps : List Addr} {l : List Nat} {k3 sl ov ot : Addr} {yo : List Value} {n7 : Nat} {tb : Tok} {yi : List Value} {n6 i0 : Nat} {t0 : Tok} (W : LawW chs cs ts cl tyl n1 n2 ((sl, listOf (yi ++ [Value.int (i0 : Nat) t0]).toArray n6) :: (ov, listOf yo.toArray n7) :: wl) L) (T : LawT L td fl vl al cl tyl ((sl, listOf (yi ++ [Value.int (i0 : Nat) t0]).toArray n6) :: (ov, listOf yo.toArray n7) :: wl)) (htl : tps.length ≤ 1) (d9 : cdat o9 (some (.ref td)))
    (F : Fr g L s.heap (fun y => if y = Str.ofString "alone" then some (.ref ot) else if y = Str.ofString "own" then some (.ref ow) else if y = Str.ofString "fits" then some (.bool fits) else u y)) (N : News g L s.heap ((L + 1 + 1 + 1 + 1 + 1 + 1 + 1 + 1 + 1, o9) :: (L + 1 + 1 + 1 + 1 + 1 + 1 + 1 + 1, o8) :: (L + 1 + 1 + 1 + 1 + 1 + 1 + 1, o7) :: (L + 1 + 1 + 1 + 1 + 1 + 1, o6) :: (L + 1 + 1 + 1 + 1 + 1, o5) :: (L + 1 + 1 + 1 + 1, o4) :: (L + 1 + 1 + 1, o3) :: (L + 1 + 1, o2) :: (L + 1, o1) :: (652, tabObj (((#[] ++ #[rawInt ((403 : Nat) : Int), rawInt ((45 : Nat) : Int), Value.ref k1]) ++ #[rawInt ((404 : Nat) : Int), rawInt ((46 : Nat) : Int), Value.ref k2]) ++ #[rawInt ((416 : Nat) : Int), rawInt ((43 : Nat) : Int), Value.ref k3])) :: (td, listOf (tps.map Value.ref).toArray nt) :: (fl, listOf yf.toArray n5) :: (vl, listOf yv.toArray n4) :: (al, listOf ya.toArray n3) :: (cl, listOf (cs.map Value.ref).toArray n1) :: (tyl, listOf (ts.map Value.ref).toArray n2) :: (sl, listOf (yi ++ [Value.int (i0 : Nat) t0]).toArray n6) :: (ov, listOf yo.toArray n7) :: wl))
    (next : ∀ h' tk tb, Fr g L h' (fun y => if y = Str.ofString "before" then some (.int (tps.length : Nat) tb) else if y = Str.ofString "alone" then some (.ref ot) else if y = Str.ofString "own" then some (.ref ow) else if y = Str.ofString "fits" then some (.bool fits) else u y) → News g L h' ((L + 1 + 1 + 1 + 1 + 1 + 1 + 1 + 1 + 1, o9) :: (L + 1 + 1 + 1 + 1 + 1 + 1 + 1 + 1, o8) :: (L + 1 + 1 + 1 + 1 + 1 + 1 + 1, o7) :: (L + 1 + 1 + 1 + 1 + 1 + 1, o6) :: (L + 1 + 1 + 1 + 1 + 1, o5) :: (L + 1 + 1 + 1 + 1, o4) :: (L + 1 + 1 + 1, o3) :: (L + 1 + 1, o2) :: (L + 1, o1) :: (652, tabObj (((#[] ++ #[rawInt ((403 : Nat) : Int), rawInt ((45 : Nat) : Int), Value.ref k1]) ++ #[rawInt ((404 : Nat) : Int), rawInt ((46 : Nat) : Int), Value.ref k2]) ++ #[rawInt ((416 : Nat) : Int), rawInt ((43 : Nat) : Int), Value.ref k3])) :: (td, listOf (tps.map Value.ref).toArray nt) :: (fl, listOf yf.toArray n5) :: (vl, listOf yv.toArray n4) :: (al, listOf ya.toArray n3) :: (cl, listOf (cs.map Value.ref).toArray n1) :: (tyl, listOf (ts.map Value.ref).toArray n2) :: (sl, listOf (yi ++ [Value.int (i0 : Nat) t0]).toArray n6) :: (ov, listOf yo.toArray n7) :: wl) → wpAny (model PG w) (callerA.deeper (lawEnv qual scope L fa)) (execs ((ifBody ((ifBody (body.drop 15)).drop 3)).drop 3) (lawEnv qual scope L fa)) Q E { s with heap := h', toks := tk }) :
    wpAny (model PG w) (callerA.deeper (lawEnv qual scope L fa)) (execs ((ifBody ((ifBody (body.drop 15)).drop 3)).drop 2) (lawEnv qual scope L fa)) Q E s := by
  obtain ⟨hf, K, X, TP, hl, hI, hlen, hC⟩ := c
  obtain ⟨name, params, dV, kV, doc, pm, an, cdv, ct, oc, od, osl, hf⟩ := hf
  have hf2 : (hd.heap_39 w.params).lookup 655 = some ⟨_, _, .func (fnOf _ _ _ _ _ _ _ _ _ _ _ _), _⟩ := rfl
  rw [hf2] at hf
  cases hf
  clear hf2
  dsimp only [List.drop, ifBody]
  repeat ((fail_if_success (with_reducible show wpAny _ _ (call (Value.builtin _) _) _ _ _)); (first | (k_unfold; (try dsimp only)) | walk1 | (dsimp only; walk1)))
  k_dflt (refine len_at tps.length (News.isList (by k_asm) (by k_mem)) (by simp) (by omega) ?_)
  repeat ((fail_if_success (with_reducible show wpAny _ _ (execs _ _) _ _ _)); (first | (k_unfold; (try dsimp only)) | walk1 | (dsimp only; walk1)))
  exact next _ _ _ (by assumption) (by assumption)
end Mine

namespace Mine
/-- what the call for one class tells -/
theorem gt_alone {ts : List Addr} {ok : Option Nat} {nm : Str} {y r : Value} {tps : List Addr} {its' : Array Value} {tl : List (Addr × Obj)} (h : GTOut y nm (ok.map fun k => ts.getD k 0) false r (tps.map Value.ref).toArray its' tl) :
    (∃ d, ok = some d ∧ r = .ref (ts.getD d 0) ∧ its' = (tps.map Value.ref).toArray ∧ tl = []) ∨ (ok = none ∧ r = y ∧ ∃ tp, its' = ((tps ++ [tp]).map Value.ref).toArray) := by
  unfold GTOut at h
  cases ok with
  | some d => exact .inl ⟨d, rfl, h⟩
  | none =>
    obtain ⟨rfl, tp, t, rfl, rfl⟩ := h
    exact .inr ⟨rfl, rfl, tp, by rw [List.map_append]; simp⟩
set_option maxRecDepth 100000
set_option maxHeartbeats 8000000
variable {w : World} {p : Program} {loose : List Str} {mean : ExcName → Option Value} {mg mb : Str → Option Value} {qual : Str} {body : List Stmt} {scope : Scope} {g base : Heap} {L sc fa : Addr} {vs : List Value} {ns : List Int}
theorem jn3 (c : LawCtx w p loose mean mg mb qual body scope g base L sc vs ns) {s : Shared} {Q : Flow → Shared → Prop} {E : Value → Shared → Prop} {o1 o2 o3 o4 o5 o6 o7 o8 o9 : Obj} {u : Str → Option Value} {chs : List (List Nat)} {cs ts : List Addr} {cl tyl : Addr} {n1 n2 : Nat} {wl : List (Addr × Obj)} {al vl ow fl td : Addr} {ya yv yf : List Value} {n3 n4 n5 nt : Nat} {fits : Bool} {k1 k2 : Addr} {tps : List Addr} {l : List Nat} {k3 sl ov ot : Addr} {yo : List Value} {n7 : Nat} {tb : Tok} {yi : List Value} {n6 i0 : Nat} {t0 : Tok} (W : LawW chs cs ts cl tyl n1 n2 ((sl, listOf (yi ++ [Value.int (i0 : Nat) t0]).toArray n6) :: (ov, listOf yo.toArray n7) :: wl) L) (T : LawT L td fl vl al cl tyl ((sl, listOf (yi ++ [Value.int (i0 : Nat) t0]).toArray n6) :: (ov, listOf yo.toArray n7) :: wl)) {ub : Addr} (hne : l ≠ []) (hlt : ∀ k ∈ l, k < chs.length) (hll : l.length ≤ 4) (htl : tps.length ≤ 1) (hi0 : i0 < chs.length) (hil : i0 ∉ l)
    (htv : ∀ At : Addr → Obj → Prop, (∀ q ∈ wl, At q.1 q.2) → TvAt At ow (Str.ofString "T") (tyL ts l) ub ∧ TvAt At ot (Str.ofString "U") (tyL ts [i0]) (ts.getD 0 0)) (d9 : cdat o9 (some (.ref td)))
    (F : Fr g L s.heap (fun y => if y = Str.ofString "before" then some (.int (tps.length : Nat) tb) else if y = Str.ofString "alone" then some (.ref ot) else if y = Str.ofString "own" then some (.ref ow) else if y = Str.ofString "fits" then some (.bool fits) else u y)) (N : News g L s.heap ((L + 1 + 1 + 1 + 1 + 1 + 1 + 1 + 1 + 1, o9) :: (L + 1 + 1 + 1 + 1 + 1 + 1 + 1 + 1, o8) :: (L + 1 + 1 + 1 + 1 + 1 + 1 + 1, o7) :: (L + 1 + 1 + 1 + 1 + 1 + 1, o6) :: (L + 1 + 1 + 1 + 1 + 1, o5) :: (L + 1 + 1 + 1 + 1, o4) :: (L + 1 + 1 + 1, o3) :: (L + 1 + 1, o2) :: (L + 1, o1) :: (652, tabObj (((#[] ++ #[rawInt ((403 : Nat) : Int), rawInt ((45 : Nat) : Int), Value.ref k1]) ++ #[rawInt ((404 : Nat) : Int), rawInt ((46 : Nat) : Int), Value.ref k2]) ++ #[rawInt ((416 : Nat) : Int), rawInt ((43 : Nat) : Int), Value.ref k3])) :: (td, listOf (tps.map Value.ref).toArray nt) :: (fl, listOf yf.toArray n5) :: (vl, listOf yv.toArray n4) :: (al, listOf ya.toArray n3) :: (cl, listOf (cs.map Value.ref).toArray n1) :: (tyl, listOf (ts.map Value.ref).toArray n2) :: (sl, listOf (yi ++ [Value.int (i0 : Nat) t0]).toArray n6) :: (ov, listOf yo.toArray n7) :: wl))
    (next : ∀ h' tk k4 nt tl fd (tq : List Addr), ((∃ d, best chs (l.filter fun k => sub chs i0 k) = some d ∧ fd = ts.getD d 0 ∧ tq = tps) ∨ (best chs (l.filter fun k => sub chs i0 k) = none ∧ fd = ot ∧ ∃ tp, tq = tps ++ [tp])) →
      LawW chs cs ts cl tyl n1 n2 (tl ++ (sl, listOf (yi ++ [Value.int (i0 : Nat) t0]).toArray n6) :: (ov, listOf yo.toArray n7) :: wl) L → LawT L td fl vl al cl tyl (tl ++ (sl, listOf (yi ++ [Value.int (i0 : Nat) t0]).toArray n6) :: (ov, listOf yo.toArray n7) :: wl) →
      Fr g L h' (fun y => if y = Str.ofString "found" then some (.ref fd) else if y = Str.ofString "before" then some (.int (tps.length : Nat) tb) else if y = Str.ofString "alone" then some (.ref ot) else if y = Str.ofString "own" then some (.ref ow) else if y = Str.ofString "fits" then some (.bool fits) else u y) →
      News g L h' ((L + 1 + 1 + 1 + 1 + 1 + 1 + 1 + 1 + 1, o9) :: (L + 1 + 1 + 1 + 1 + 1 + 1 + 1 + 1, o8) :: (L + 1 + 1 + 1 + 1 + 1 + 1 + 1, o7) :: (L + 1 + 1 + 1 + 1 + 1 + 1, o6) :: (L + 1 + 1 + 1 + 1 + 1, o5) :: (L + 1 + 1 + 1 + 1, o4) :: (L + 1 + 1 + 1, o3) :: (L + 1 + 1, o2) :: (L + 1, o1) :: (652, tabObj ((((#[] ++ #[rawInt ((403 : Nat) : Int), rawInt ((45 : Nat) : Int), Value.ref k1]) ++ #[rawInt ((404 : Nat) : Int), rawInt ((46 : Nat) : Int), Value.ref k2]) ++ #[rawInt ((416 : Nat) : Int), rawInt ((43 : Nat) : Int), Value.ref k3]) ++ #[rawInt ((423 : Nat) : Int), rawInt ((48 : Nat) : Int), Value.ref k4])) :: (td, listOf (tq.map Value.ref).toArray nt) :: (fl, listOf yf.toArray n5) :: (vl, listOf yv.toArray n4) :: (al, listOf ya.toArray n3) :: (cl, listOf (cs.map Value.ref).toArray n1) :: (tyl, listOf (ts.map Value.ref).toArray n2) :: (tl ++ (sl, listOf (yi ++ [Value.int (i0 : Nat) t0]).toArray n6) :: (ov, listOf yo.toArray n7) :: wl)) → wpAny (model PG w) (callerA.deeper (lawEnv qual scope L fa)) (execs ((ifBody ((ifBody (body.drop 15)).drop 3)).drop 4) (lawEnv qual scope L fa)) Q E { s with heap := h', toks := tk }) :
    wpAny (model PG w) (callerA.deeper (lawEnv qual scope L fa)) (execs ((ifBody ((ifBody (body.drop 15)).drop 3)).drop 3) (lawEnv qual scope L fa)) Q E s := by
  obtain ⟨hf, K, X, TP, hl, hI, hlen, hC⟩ := c
  obtain ⟨name, params, dV, kV, doc, pm, an, cdv, ct, oc, od, osl, hf⟩ := hf
  have hf2 : (hd.heap_39 w.params).lookup 655 = some ⟨_, _, .func (fnOf _ _ _ _ _ _ _ _ _ _ _ _), _⟩ := rfl
  rw [hf2] at hf
  cases hf
  clear hf2
  dsimp only [List.drop, ifBody]
  have hcs := W.hcs
  have hts := W.hts
  have hlc := W.hlc
  have h652 := W.h652
  have hpos := W.hgd.pos
  have y0 : @Ne Nat fl 652 := T.oc fl (by simp) _ (by simp)
  have y1 : @Ne Nat vl 652 := T.oc vl (by simp) _ (by simp)
  have y2 : @Ne Nat al 652 := T.oc al (by simp) _ (by simp)
  have y3 : @Ne Nat cl 652 := T.oc cl (by simp) _ (by simp)
  have y4 : @Ne Nat tyl 652 := T.oc tyl (by simp) _ (by simp)
  have y5 : @Ne Nat td 652 := Nat.ne_of_gt (T.ctd _ (by simp))
  have y7 : @Ne Nat sl 652 := T.wc _ (by simp) _ (.head _)
  have y8 : @Ne Nat ov 652 := T.wc _ (by simp) _ (.tail _ (.head _))
  have y6 : ∀ q ∈ wl, q.1 ≠ 652 := fun q hq => T.wc _ (by simp) q (.tail _ (.tail _ hq))
  repeat ((fail_if_success (with_reducible show wpAny _ _ (call (Value.ref 624) _ _) _ _ _)); (first | (k_unfold; (try dsimp only)) | walk1 | (dsimp only; walk1)))
  rename (@LT.lt Nat _ (L + 1 + 1 + 1 + 1 + 1 + 1 + 1 + 1 + 1) _ ∧ _) => lc
  rename (@LT.lt Nat _ _ _) => lc2
  rename News _ _ _ _ => Nx
  have lc' := of_allLt (l := (L + 1 + 1 + 1 + 1 + 1 + 1 + 1 + 1 + 1, o9) :: (L + 1 + 1 + 1 + 1 + 1 + 1 + 1 + 1, o8) :: (L + 1 + 1 + 1 + 1 + 1 + 1 + 1, o7) :: (L + 1 + 1 + 1 + 1 + 1 + 1, o6) :: (L + 1 + 1 + 1 + 1 + 1, o5) :: (L + 1 + 1 + 1 + 1, o4) :: (L + 1 + 1 + 1, o3) :: (L + 1 + 1, o2) :: (L + 1, o1) :: (652, tabObj (((#[] ++ #[rawInt ((403 : Nat) : Int), rawInt ((45 : Nat) : Int), Value.ref k1]) ++ #[rawInt ((404 : Nat) : Int), rawInt ((46 : Nat) : Int), Value.ref k2]) ++ #[rawInt ((416 : Nat) : Int), rawInt ((43 : Nat) : Int), Value.ref k3])) :: (td, listOf (tps.map Value.ref).toArray nt) :: (fl, listOf yf.toArray n5) :: (vl, listOf yv.toArray n4) :: (al, listOf ya.toArray n3) :: (cl, listOf (cs.map Value.ref).toArray n1) :: (tyl, listOf (ts.map Value.ref).toArray n2) :: (sl, listOf (yi ++ [Value.int (i0 : Nat) t0]).toArray n6) :: (ov, listOf yo.toArray n7) :: wl) lc
  have N1 := told_in (C8 := (L + 1 + 1 + 1 + 1 + 1 + 1 + 1 + 1, o8) :: (L + 1 + 1 + 1 + 1 + 1 + 1 + 1, o7) :: (L + 1 + 1 + 1 + 1 + 1 + 1, o6) :: (L + 1 + 1 + 1 + 1 + 1, o5) :: (L + 1 + 1 + 1 + 1, o4) :: (L + 1 + 1 + 1, o3) :: (L + 1 + 1, o2) :: (L + 1, o1) :: (652, _) :: []) (d := (td, listOf (tps.map Value.ref).toArray nt)) (r := (fl, listOf yf.toArray n5) :: (vl, listOf yv.toArray n4) :: (al, listOf ya.toArray n3) :: (cl, listOf (cs.map Value.ref).toArray n1) :: (tyl, listOf (ts.map Value.ref).toArray n2) :: (sl, listOf (yi ++ [Value.int (i0 : Nat) t0]).toArray n6) :: (ov, listOf yo.toArray n7) :: wl) Nx
  have hoff := lam_off2 h652 T N1 lc' lc2
  have hwm : ∀ (tb0 : Obj), ∀ q ∈ wl, q ∈ (L + 1 + 1 + 1 + 1 + 1 + 1 + 1 + 1, o8) :: (L + 1 + 1 + 1 + 1 + 1 + 1 + 1, o7) :: (L + 1 + 1 + 1 + 1 + 1 + 1, o6) :: (L + 1 + 1 + 1 + 1 + 1, o5) :: (L + 1 + 1 + 1 + 1, o4) :: (L + 1 + 1 + 1, o3) :: (L + 1 + 1, o2) :: (L + 1, o1) :: (652, tb0) :: (fl, listOf yf.toArray n5) :: (vl, listOf yv.toArray n4) :: (al, listOf ya.toArray n3) :: (cl, listOf (cs.map Value.ref).toArray n1) :: (tyl, listOf (ts.map Value.ref).toArray n2) :: (sl, listOf (yi ++ [Value.int (i0 : Nat) t0]).toArray n6) :: (ov, listOf yo.toArray n7) :: wl := fun tb0 q hq => by repeat (first | exact hq | refine .tail _ ?_)
  have lc3 : @LT.lt Nat _ td _ := lc' (td, listOf (tps.map Value.ref).toArray nt) (by simp)
  k_dflt (refine' Gets.useK (@gets_alone w _ _ _ _ _ chs cs ts l ow ot ub (Str.ofString "T") (Str.ofString "U") W.hgd W.hlc hne hlt hll i0 hi0 hil) ?k1 ?k2 ?k3 N1 ?k5 ?k6 ?k7 ?k8 ?k9 hoff ?kW ?kd ?ku ?_)
  case k1 => k_asm
  case k2 => k_asm
  case k3 => k_asm
  case k5 => k_asm
  case k6 => exact rfl
  case k7 => exact ⟨_, _, _, _, rfl⟩
  case k8 => exact fun _ => @lam_call4 w _ _ _ _ _ _ _ _ _ _ _ _ _ _ _ _ _ (by assumption) (by assumption) d9 (T.ctd _ (by simp)) lc3 lc2
  case k9 => rw [List.size_toArray, List.length_map]; omega
  case kW =>
    intro g9 G9
    have hw8 : ∀ (tb0 : Obj), ∀ q ∈ (sl, listOf (yi ++ [Value.int (i0 : Nat) t0]).toArray n6) :: (ov, listOf yo.toArray n7) :: wl, q ∈ (L + 1 + 1 + 1 + 1 + 1 + 1 + 1 + 1, o8) :: (L + 1 + 1 + 1 + 1 + 1 + 1 + 1, o7) :: (L + 1 + 1 + 1 + 1 + 1 + 1, o6) :: (L + 1 + 1 + 1 + 1 + 1, o5) :: (L + 1 + 1 + 1 + 1, o4) :: (L + 1 + 1 + 1, o3) :: (L + 1 + 1, o2) :: (L + 1, o1) :: (652, tb0) :: (fl, listOf yf.toArray n5) :: (vl, listOf yv.toArray n4) :: (al, listOf ya.toArray n3) :: (cl, listOf (cs.map Value.ref).toArray n1) :: (tyl, listOf (ts.map Value.ref).toArray n2) :: (sl, listOf (yi ++ [Value.int (i0 : Nat) t0]).toArray n6) :: (ov, listOf yo.toArray n7) :: wl := fun tb0 q hq => by repeat (first | exact hq | refine .tail _ ?_)
    have hw9 : ∀ q ∈ (sl, listOf (yi ++ [Value.int (i0 : Nat) t0]).toArray n6) :: (ov, listOf yo.toArray n7) :: wl, hAt g9 q.1 q.2 := fun q hq => G9 _ _ (N1 q (List.mem_append_right _ (hw8 _ q hq))).1 (hoff q (hw8 _ q hq))
    have hw7 : ∀ q ∈ wl, hAt g9 q.1 q.2 := fun q hq => hw9 q (.tail _ (.tail _ hq))
    exact ⟨(W.hwd _ hw9).1, (W.hwd _ hw9).2, (htv _ hw7).1, (htv _ hw7).2⟩
  case kd => k_room
  case ku => k_units
  intro r its' n' tl h' tk' F' N' hs hr
  have hga := gt_alone hr
  have N2 := told_out (C8 := (L + 1 + 1 + 1 + 1 + 1 + 1 + 1 + 1, o8) :: (L + 1 + 1 + 1 + 1 + 1 + 1 + 1, o7) :: (L + 1 + 1 + 1 + 1 + 1 + 1, o6) :: (L + 1 + 1 + 1 + 1 + 1, o5) :: (L + 1 + 1 + 1 + 1, o4) :: (L + 1 + 1 + 1, o3) :: (L + 1 + 1, o2) :: (L + 1, o1) :: (652, _) :: []) (r := (fl, listOf yf.toArray n5) :: (vl, listOf yv.toArray n4) :: (al, listOf ya.toArray n3) :: (cl, listOf (cs.map Value.ref).toArray n1) :: (tyl, listOf (ts.map Value.ref).toArray n2) :: []) (wl := (sl, listOf (yi ++ [Value.int (i0 : Nat) t0]).toArray n6) :: (ov, listOf yo.toArray n7) :: wl) (tl := tl) N'
  clear N'
  have hcad := off_adr (l := ((L + 1 + 1 + 1 + 1 + 1 + 1 + 1 + 1 + 1), o9) :: (L + 1 + 1 + 1 + 1 + 1 + 1 + 1 + 1, o8) :: (L + 1 + 1 + 1 + 1 + 1 + 1 + 1, o7) :: (L + 1 + 1 + 1 + 1 + 1 + 1, o6) :: (L + 1 + 1 + 1 + 1 + 1, o5) :: (L + 1 + 1 + 1 + 1, o4) :: (L + 1 + 1 + 1, o3) :: (L + 1 + 1, o2) :: (L + 1, o1) :: (652, _) :: []) (as := [L + 1 + 1 + 1 + 1 + 1 + 1 + 1 + 1 + 1, L + 1 + 1 + 1 + 1 + 1 + 1 + 1 + 1, L + 1 + 1 + 1 + 1 + 1 + 1 + 1, L + 1 + 1 + 1 + 1 + 1 + 1, L + 1 + 1 + 1 + 1 + 1, L + 1 + 1 + 1 + 1, L + 1 + 1 + 1, L + 1 + 1, L + 1, 652]) (tl := tl) (fun z hz => tl_off Nx hs (.tail _ (.tail _ (List.mem_append_left ((td, listOf (tps.map Value.ref).toArray nt) :: (fl, listOf yf.toArray n5) :: (vl, listOf yv.toArray n4) :: (al, listOf ya.toArray n3) :: (cl, listOf (cs.map Value.ref).toArray n1) :: (tyl, listOf (ts.map Value.ref).toArray n2) :: (sl, listOf (yi ++ [Value.int (i0 : Nat) t0]).toArray n6) :: (ov, listOf yo.toArray n7) :: wl) hz)))) rfl
  have htd := tl_off (tl := tl) Nx hs (z := (td, listOf (tps.map Value.ref).toArray nt)) (by simp)
  have W' := W.more hcad
  have T' := T.more htd hcad
  clear Nx N1
  dsimp only
  rcases hga with ⟨d, e1, rfl, rfl, rfl⟩ | ⟨e1, rfl, tp, rfl⟩
  · repeat ((fail_if_success (with_reducible show wpAny _ _ (execs _ _) _ _ _)); (first | (k_unfold; (try dsimp only)) | walk1 | (dsimp only; walk1)))
    exact next _ _ _ n' [] _ tps (.inl ⟨d, e1, rfl, rfl⟩) W' T' (by assumption) (by assumption)
  · repeat ((fail_if_success (with_reducible show wpAny _ _ (execs _ _) _ _ _)); (first | (k_unfold; (try dsimp only)) | walk1 | (dsimp only; walk1)))
    exact next _ _ _ n' tl _ (tps ++ [tp]) (.inr ⟨e1, rfl, tp, rfl⟩) W' T' (by assumption) (by assumption)
end Mine

namespace Mine
theorem news_out1 {h H : Heap} {L : Addr} {D : Addr × Obj} {C10 r : List (Addr × Obj)} (N : News h L H (C10 ++ D :: r)) : News h L H (D :: (C10 ++ r)) := fun p hp => N p (by
  simp only [List.mem_cons, List.mem_append] at hp ⊢
  rcases hp with h | h | h <;> simp [h])
theorem off_out1 {C10 r : List (Addr × Obj)} {as : List Addr} {D : Addr} (l1 : ∀ a ∈ as, @LT.lt Nat _ a D) (e : C10.map (·.1) = as) (l2 : ∀ p ∈ r, p.1 ≠ D) : ∀ p ∈ C10 ++ r, p.1 ≠ D := fun p hp => by
  subst e
  rcases List.mem_append.mp hp with hp | hp
  · exact Nat.ne_of_lt (l1 _ (List.mem_map_of_mem hp))
  · exact l2 p hp
theorem fr_fits {g h : Heap} {L : Addr} {v : Option Value} {m : Str → Option Value} {x : Str} (F : Fr g L h m) (e : m x = v) : Fr g L h (fun y => if y = x then v else m y) := by
  have e' : m = fun y => if y = x then v else m y := by
    funext y
    by_cases q : y = x
    · subst q; simp [e]
    · simp [q]
  rw [e'] at F
  exact F
set_option maxRecDepth 100000
set_option maxHeartbeats 8000000
variable {w : World} {p : Program} {loose : List Str} {mean : ExcName → Option Value} {mg mb : Str → Option Value} {qual : Str} {body : List Stmt} {scope : Scope} {g base : Heap} {L sc fa : Addr} {vs : List Value} {ns : List Int}
theorem jn4 (c : LawCtx w p loose mean mg mb qual body scope g base L sc vs ns) {s : Shared} {Q : Flow → Shared → Prop} {E : Value → Shared → Prop} {o1 o2 o3 o4 o5 o6 o7 o8 o9 : Obj} {u : Str → Option Value} {chs : List (List Nat)} {cs ts : List Addr} {cl tyl : Addr} {n1 n2 : Nat} {wl : List (Addr × Obj)} (W : LawW chs cs ts cl tyl n1 n2 wl L) {al vl ow fl td : Addr} {ya yv yf : List Value} {n3 n4 n5 nt : Nat} {fits : Bool} {k1 k2 : Addr} {tps : List Addr} {l : List Nat} (T : LawT L td fl vl al cl tyl wl) {ov ot fd k3 k4 : Addr} {yo : List Value} {n7 i0 : Nat} {tb : Tok} {fit2 : List Nat} {tq : List Addr} (hov : ov ≠ td) (hyo : NatsAre yo fit2) (hi0 : i0 < chs.length) (hmem : ∀ k ∈ fit2, k ∈ chs.getD i0 []) (hf2n : fit2.length ≤ 4) (htl : tps.length ≤ 1)
    (hcase : (∃ d, best chs fit2 = some d ∧ fd = ts.getD d 0 ∧ tq = tps) ∨ (best chs fit2 = none ∧ fd = ot ∧ ∃ tp, tq = tps ++ [tp]))
    (d1 : cdat o1 (some (.ref cl))) (d3 : cdat o3 (some (.ref tyl))) (d8 : cdat o8 (some (.ref ov))) (d9 : cdat o9 (some (.ref td)))
    (F : Fr g L s.heap (fun y => if y = Str.ofString "found" then some (.ref fd) else if y = Str.ofString "before" then some (.int (tps.length : Nat) tb) else if y = Str.ofString "alone" then some (.ref ot) else if y = Str.ofString "own" then some (.ref ow) else if y = Str.ofString "fits" then some (.bool fits) else u y)) (N : News g L s.heap ((L + 1 + 1 + 1 + 1 + 1 + 1 + 1 + 1 + 1, o9) :: (L + 1 + 1 + 1 + 1 + 1 + 1 + 1 + 1, o8) :: (L + 1 + 1 + 1 + 1 + 1 + 1 + 1, o7) :: (L + 1 + 1 + 1 + 1 + 1 + 1, o6) :: (L + 1 + 1 + 1 + 1 + 1, o5) :: (L + 1 + 1 + 1 + 1, o4) :: (L + 1 + 1 + 1, o3) :: (L + 1 + 1, o2) :: (L + 1, o1) :: (652, tabObj ((((#[] ++ #[rawInt ((403 : Nat) : Int), rawInt ((45 : Nat) : Int), Value.ref k1]) ++ #[rawInt ((404 : Nat) : Int), rawInt ((46 : Nat) : Int), Value.ref k2]) ++ #[rawInt ((416 : Nat) : Int), rawInt ((43 : Nat) : Int), Value.ref k3]) ++ #[rawInt ((423 : Nat) : Int), rawInt ((48 : Nat) : Int), Value.ref k4])) :: (td, listOf (tq.map Value.ref).toArray nt) :: (fl, listOf yf.toArray n5) :: (vl, listOf yv.toArray n4) :: (al, listOf ya.toArray n3) :: (cl, listOf (cs.map Value.ref).toArray n1) :: (tyl, listOf (ts.map Value.ref).toArray n2) :: (ov, listOf yo.toArray n7) :: wl))
    (hE : PassesOwn (model PG w) (callerA.deeper (lawEnv qual scope L fa)) (lawEnv qual scope L fa) E)
    (next : ∀ h' tk nt (u : Str → Option Value), Fr g L h' (fun y => if y = Str.ofString "fits" then some (.bool fits) else u y) → News g L h' ((L + 1 + 1 + 1 + 1 + 1 + 1 + 1 + 1 + 1, o9) :: (L + 1 + 1 + 1 + 1 + 1 + 1 + 1 + 1, o8) :: (L + 1 + 1 + 1 + 1 + 1 + 1 + 1, o7) :: (L + 1 + 1 + 1 + 1 + 1 + 1, o6) :: (L + 1 + 1 + 1 + 1 + 1, o5) :: (L + 1 + 1 + 1 + 1, o4) :: (L + 1 + 1 + 1, o3) :: (L + 1 + 1, o2) :: (L + 1, o1) :: (652, tabObj ((((#[] ++ #[rawInt ((403 : Nat) : Int), rawInt ((45 : Nat) : Int), Value.ref k1]) ++ #[rawInt ((404 : Nat) : Int), rawInt ((46 : Nat) : Int), Value.ref k2]) ++ #[rawInt ((416 : Nat) : Int), rawInt ((43 : Nat) : Int), Value.ref k3]) ++ #[rawInt ((423 : Nat) : Int), rawInt ((48 : Nat) : Int), Value.ref k4])) :: (td, listOf (tps.map Value.ref).toArray nt) :: (fl, listOf yf.toArray n5) :: (vl, listOf yv.toArray n4) :: (al, listOf ya.toArray n3) :: (cl, listOf (cs.map Value.ref).toArray n1) :: (tyl, listOf (ts.map Value.ref).toArray n2) :: (ov, listOf yo.toArray n7) :: wl) → Q .next { s with heap := h', toks := tk }) :
    wpAny (model PG w) (callerA.deeper (lawEnv qual scope L fa)) (execs ((ifBody ((ifBody (body.drop 15)).drop 3)).drop 4) (lawEnv qual scope L fa)) Q E s := by
  obtain ⟨hf, K, X, TP, hl, hI, hlen, hC⟩ := c
  obtain ⟨name, params, dV, kV, doc, pm, an, cdv, ct, oc, od, osl, hf⟩ := hf
  have hf2 : (hd.heap_39 w.params).lookup 655 = some ⟨_, _, .func (fnOf _ _ _ _ _ _ _ _ _ _ _ _), _⟩ := rfl
  rw [hf2] at hf
  cases hf
  clear hf2
  dsimp only [List.drop, ifBody]
  have hcs := W.hcs
  have hts := W.hts
  have hlc := W.hlc
  have h652 := W.h652
  have hpos := W.hgd.pos
  have hf2l : ∀ k ∈ fit2, k < chs.length := fun k hk => W.hgd.mem_lt i0 k (hmem k hk)
  repeat ((fail_if_success (with_reducible show (if _ then (_ : Prop) else (_ : Prop)))); (first | (k_unfold; (try dsimp only)) | walk1 | (dsimp only; walk1)))
  by_cases hfe : fit2 = []
  · obtain ⟨rfl, tp, rfl⟩ : fd = ot ∧ ∃ tp, tq = tps ++ [tp] := by
      rcases hcase with ⟨d, e1, _⟩ | ⟨_, e2, e3⟩
      · rw [hfe] at e1; cases e1
      · exact ⟨e2, e3⟩
    refine PySem.W.ite_neg (by simp [hfe]) ?_
    repeat ((fail_if_success (with_reducible show wpAny _ _ (compareOp _ _ _) _ _ _)); (first | (k_unfold; (try dsimp only)) | walk1 | (dsimp only; walk1)))
    k_dflt (refine wpAny_is_ref_self ?_)
    repeat ((fail_if_success (with_reducible show wpAny _ _ (call (Value.builtin _) _) _ _ _)); (first | (k_unfold; (try dsimp only)) | walk1 | (dsimp only; walk1)))
    k_dflt (refine len_at (tps.length + 1) (News.isList (by k_asm) (by k_mem)) (by simp) (by omega) ?_)
    repeat ((fail_if_success (with_reducible show (if _ then (_ : Prop) else (_ : Prop)))); (first | (k_unfold; (try dsimp only)) | walk1 | (dsimp only; walk1)))
    refine PySem.W.ite_neg (by simp) ?_
    repeat (first | (refine PySem.W.ite_neg not_false ?_) | (refine PySem.W.ite_neg Bool.false_ne_true ?_) | (refine PySem.W.ite_pos trivial ?_) | ((with_reducible show wpAny _ _ _ _ _ _); (first | (k_unfold; (try dsimp only)) | walk1 | (dsimp only; walk1))) | dsimp only)
    rename Fr _ _ _ _ => F₃
    rename News _ _ _ _ => N₃
    have hkl : kl_last ((tps ++ [tp]).map Value.ref).toArray.toList = some (tps.map Value.ref, Value.ref tp) := by
      rcases tps with _ | ⟨a, _ | ⟨b, c⟩⟩
      · rfl
      · rfl
      · simp at htl
    have N₄ := news_drop1 N₃
    have N₅ := news_out1 (C10 := (L + 1 + 1 + 1 + 1 + 1 + 1 + 1 + 1 + 1, o9) :: (L + 1 + 1 + 1 + 1 + 1 + 1 + 1 + 1, o8) :: (L + 1 + 1 + 1 + 1 + 1 + 1 + 1, o7) :: (L + 1 + 1 + 1 + 1 + 1 + 1, o6) :: (L + 1 + 1 + 1 + 1 + 1, o5) :: (L + 1 + 1 + 1 + 1, o4) :: (L + 1 + 1 + 1, o3) :: (L + 1 + 1, o2) :: (L + 1, o1) :: (652, tabObj ((((#[] ++ #[rawInt ((403 : Nat) : Int), rawInt ((45 : Nat) : Int), Value.ref k1]) ++ #[rawInt ((404 : Nat) : Int), rawInt ((46 : Nat) : Int), Value.ref k2]) ++ #[rawInt ((416 : Nat) : Int), rawInt ((43 : Nat) : Int), Value.ref k3]) ++ #[rawInt ((423 : Nat) : Int), rawInt ((48 : Nat) : Int), Value.ref k4])) :: []) (D := (td, listOf ((tps ++ [tp]).map Value.ref).toArray nt)) (r := (fl, listOf yf.toArray n5) :: (vl, listOf yv.toArray n4) :: (al, listOf ya.toArray n3) :: (cl, listOf (cs.map Value.ref).toArray n1) :: (tyl, listOf (ts.map Value.ref).toArray n2) :: (ov, listOf yo.toArray n7) :: wl) N₄
    have hr5 : ∀ p ∈ (fl, listOf yf.toArray n5) :: (vl, listOf yv.toArray n4) :: (al, listOf ya.toArray n3) :: (cl, listOf (cs.map Value.ref).toArray n1) :: (tyl, listOf (ts.map Value.ref).toArray n2) :: (ov, listOf yo.toArray n7) :: wl, p.1 ≠ td := List.forall_mem_cons.mpr ⟨T.otd _ (by simp), List.forall_mem_cons.mpr ⟨T.otd _ (by simp), List.forall_mem_cons.mpr ⟨T.otd _ (by simp), List.forall_mem_cons.mpr ⟨T.otd _ (by simp), List.forall_mem_cons.mpr ⟨T.otd _ (by simp), List.forall_mem_cons.mpr ⟨hov, T.wtd⟩⟩⟩⟩⟩⟩
    k_dflt (refine kl_pop F₃ N₅ hkl (Upd.head (off_out1 (C10 := (L + 1 + 1 + 1 + 1 + 1 + 1 + 1 + 1 + 1, o9) :: (L + 1 + 1 + 1 + 1 + 1 + 1 + 1 + 1, o8) :: (L + 1 + 1 + 1 + 1 + 1 + 1 + 1, o7) :: (L + 1 + 1 + 1 + 1 + 1 + 1, o6) :: (L + 1 + 1 + 1 + 1 + 1, o5) :: (L + 1 + 1 + 1 + 1, o4) :: (L + 1 + 1 + 1, o3) :: (L + 1 + 1, o2) :: (L + 1, o1) :: (652, tabObj ((((#[] ++ #[rawInt ((403 : Nat) : Int), rawInt ((45 : Nat) : Int), Value.ref k1]) ++ #[rawInt ((404 : Nat) : Int), rawInt ((46 : Nat) : Int), Value.ref k2]) ++ #[rawInt ((416 : Nat) : Int), rawInt ((43 : Nat) : Int), Value.ref k3]) ++ #[rawInt ((423 : Nat) : Int), rawInt ((48 : Nat) : Int), Value.ref k4])) :: []) (r := (fl, listOf yf.toArray n5) :: (vl, listOf yv.toArray n4) :: (al, listOf ya.toArray n3) :: (cl, listOf (cs.map Value.ref).toArray n1) :: (tyl, listOf (ts.map Value.ref).toArray n2) :: (ov, listOf yo.toArray n7) :: wl) T.ctd rfl hr5)) (by simp [sizeLine]; omega) ?_)
    intro h' F' N'
    have N₆ := news_in (C10 := (L + 1 + 1 + 1 + 1 + 1 + 1 + 1 + 1 + 1, o9) :: (L + 1 + 1 + 1 + 1 + 1 + 1 + 1 + 1, o8) :: (L + 1 + 1 + 1 + 1 + 1 + 1 + 1, o7) :: (L + 1 + 1 + 1 + 1 + 1 + 1, o6) :: (L + 1 + 1 + 1 + 1 + 1, o5) :: (L + 1 + 1 + 1 + 1, o4) :: (L + 1 + 1 + 1, o3) :: (L + 1 + 1, o2) :: (L + 1, o1) :: (652, tabObj ((((#[] ++ #[rawInt ((403 : Nat) : Int), rawInt ((45 : Nat) : Int), Value.ref k1]) ++ #[rawInt ((404 : Nat) : Int), rawInt ((46 : Nat) : Int), Value.ref k2]) ++ #[rawInt ((416 : Nat) : Int), rawInt ((43 : Nat) : Int), Value.ref k3]) ++ #[rawInt ((423 : Nat) : Int), rawInt ((48 : Nat) : Int), Value.ref k4])) :: []) N'
    clear N' N₃ N₄ N₅ F₃
    repeat (first | (refine PySem.W.ite_neg not_false ?_) | (refine PySem.W.ite_neg Bool.false_ne_true ?_) | (refine PySem.W.ite_pos trivial ?_) | ((with_reducible show wpAny _ _ _ _ _ _); (first | (k_unfold; (try dsimp only)) | walk1 | (dsimp only; walk1))) | dsimp only)
    exact next _ _ (nt + 1) _ (fr_fits (x := Str.ofString "fits") (v := some (.bool fits)) (by assumption) (by rfl)) (by assumption)
  · obtain ⟨d, e1, rfl, rfl⟩ : ∃ d, best chs fit2 = some d ∧ fd = ts.getD d 0 ∧ tq = tps := by
      rcases hcase with h | ⟨e1, _⟩
      · exact h
      · cases fit2 with
        | nil => exact absurd rfl hfe
        | cons => cases e1
    refine PySem.W.ite_pos (by simp [hfe]) ?_
    repeat ((fail_if_success (with_reducible show wpAny _ _ (eval (PySem.Expr.ListComp _ _ _ _) _) _ _ _)); (first | (k_unfold; (try dsimp only)) | walk1 | (dsimp only; walk1)))
    rename Fr _ _ _ _ => F₀
    rename News _ _ _ _ => N₀
    k_dflt (refine comp_K1 (fun i => dueT chs fit2 (fit2.getD i 0)) (fun i => yo.getD i .none) F₀ N₀ (by with_unfolding_all rfl) (by intro n; rfl) (by intro h; rfl) rfl (by decide) (by intro C K; rfl) ?_)
    repeat ((first | (with_reducible show wpAny _ _ _ _ _ _) | (with_reducible show PySem.W.Frag.In _ _ ∧ _)); (first | (k_unfold; (try dsimp only)) | walk1 | (dsimp only; walk1)))
    refine ⟨rfl, F₀, N₀, _, _, rfl, .inr ⟨_, by k_mem, rfl, _, rfl⟩, by rw [List.size_toArray, nats_len hyo]; unfold sizeLine; omega, ?_, ?_⟩
    · intro i v I oI C oC K oK D ys h tk E' hv hoK F₁ N₁
      have hv' : yo[i]? = some v := by simpa using hv
      obtain ⟨k, t, hk, rfl⟩ := nats_at hyo hv'
      have hkl := hf2l k (List.mem_of_getElem? hk)
      have hgk : fit2.getD i 0 = k := by rw [List.getD_eq_getElem?_getD, hk]; rfl
      clear F₀ N₀
      repeat ((fail_if_success (with_reducible show wpAny _ _ (eval (PySem.Expr.ListComp _ _ _ _) _) _ _ _)); (first | (k_unfold; (try dsimp only)) | walk1 | (dsimp only; walk1)))
      rename Fr _ _ _ _ => F₀
      rename News _ _ _ _ => N₀
      k_dflt (refine comp_U1 (fun j => decide (lnL chs (fit2.getD j 0) > lnL chs k)) (fun j => yo.getD j .none) F₀ N₀ (by with_unfolding_all rfl) (by decide) rfl (by decide) (by rfl) ?_)
      repeat ((first | (with_reducible show wpAny _ _ _ _ _ _) | (with_reducible show PySem.W.Frag.In _ _ ∧ _)); (first | (k_unfold; (try dsimp only)) | walk1 | (dsimp only; walk1)))
      refine ⟨rfl, F₀, N₀, _, _, .led (by k_mem), by rw [List.size_toArray, nats_len hyo]; unfold sizeLine; omega, ?_, ?_⟩
      · intro i' v' I' oI' C' oC' D' m₂ ys' h tk E₂ hi' hv2 hC hm F₂ N₂
        have hv'' : yo[i']? = some v' := by simpa using hv2
        obtain ⟨j, t', hj, rfl⟩ := nats_at hyo hv''
        have hjl := hf2l j (List.mem_of_getElem? hj)
        have hgj : fit2.getD i' 0 = j := by rw [List.getD_eq_getElem?_getD, hj]; rfl
        clear F₀ N₀
        k_steps
        · rw [hgj]; exact decide_eq_true (by simp only [lnL]; omega)
        · exact Pure1.intro (getD_some hv'').symm (by assumption) (news_drop1 (news_drop1 (by assumption)))
        · rw [hgj]; exact decide_eq_false (by simp only [lnL]; omega)
        · exact Pure1.intro rfl (by assumption) (news_drop1 (news_drop1 (by assumption)))
      · intro D' h tk F₂ N₂ off'
        clear F₀ N₀
        have hie : (((List.range yo.toArray.size).filter fun j => decide (lnL chs (fit2.getD j 0) > lnL chs k)).map fun j => yo.getD j .none).isEmpty = dueT chs fit2 (fit2.getD i 0) := by
          rw [hgk]
          exact inner_empty (by rw [List.size_toArray, nats_len hyo]) (fun j => decide (lnL chs j > lnL chs k))
        k_steps
        · rw [← hie]; assumption
        · exact Pure1.intro (getD_some hv').symm (by assumption) (news_drop1 (news_drop1 (by assumption)))
        · rw [← hie]; assumption
        · exact Pure1.intro rfl (by assumption) (news_drop1 (news_drop1 (by assumption)))
    · intro D h tk F₁ N₁ hD
      clear F₀ N₀
      obtain ⟨d', r, hdr, hbd'⟩ := W.hgd.due_best hlc hi0 (fit := fit2) hmem hfe
      have hnr := nats_filter (n := yo.toArray.size) hyo (by rw [List.size_toArray, nats_len hyo]) (dueT chs fit2)
      rw [hdr] at hnr
      obtain rfl : d' = d := by
        rw [hbd'] at e1
        exact Option.some.inj e1
      generalize ((List.range yo.toArray.size).filter fun i => dueT chs fit2 (fit2.getD i 0)).map (fun i => yo.getD i .none) = yr at hnr N₁
      cases hnr with
      | cons n9 t9 h9 =>
      have N₂ : News g L h ((D, listOf _ _) :: _) := N₁
      clear N₁
      repeat ((fail_if_success (with_reducible show wpAny _ _ (subscriptTail _ _ _ _) _ _ _)); (first | (k_unfold; (try dsimp only)) | walk1 | (dsimp only; walk1)))
      k_dflt (refine' item_nat (News.isList N₂ (.head _)) ?h0 ?h1 ?hz ?_ (by with_unfolding_all rfl))
      case h0 => exact Int.le_refl _
      case h1 => simp only [List.length_cons]; omega
      case hz =>
        have h10 := nats_len h9
        have h11 : (d' :: r).length ≤ fit2.length := by rw [← hdr]; exact List.length_filter_le _ _
        simp only [List.length_cons] at *
        omega
      have hdl : d' < chs.length := hf2l d' (by have h12 : d' ∈ fit2.filter (dueT chs fit2) := by (rw [hdr]; exact .head _)
                                                exact (List.mem_filter.mp h12).1)
      simp only [Int.toNat_zero, List.getD_cons_zero]
      repeat ((fail_if_success (with_reducible show wpAny _ _ (truthy _) _ _ _)); (first | (k_unfold; (try dsimp only)) | walk1 | (dsimp only; walk1)))
      rw [beq_self_eq_true d']
      repeat ((fail_if_success (with_reducible show wpAny _ _ (call (Value.builtin _) _) _ _ _)); (first | (k_unfold; (try dsimp only)) | walk1 | (dsimp only; walk1)))
      k_dflt (refine len_at tq.length (News.isList (by k_asm) (by k_mem)) (by simp) (by omega) ?_)
      repeat ((fail_if_success (with_reducible show (if _ then (_ : Prop) else (_ : Prop)))); (first | (k_unfold; (try dsimp only)) | walk1 | (dsimp only; walk1)))
      refine PySem.W.ite_neg (by simp) ?_
      repeat (first | (refine PySem.W.ite_neg not_false ?_) | (refine PySem.W.ite_neg Bool.false_ne_true ?_) | (refine PySem.W.ite_pos trivial ?_) | ((with_reducible show wpAny _ _ _ _ _ _); (first | (k_unfold; (try dsimp only)) | walk1 | (dsimp only; walk1))) | dsimp only)
      exact next _ _ nt _ (fr_fits (x := Str.ofString "fits") (v := some (.bool fits)) (by assumption) (by rfl)) (by first | assumption | exact news_drop1 (by assumption) | exact news_drop1 (news_drop1 (by assumption)) | exact news_drop1 (news_drop1 (news_drop1 (by assumption))) | exact news_drop1 (news_drop1 (news_drop1 (news_drop1 (by assumption)))))
end Mine

namespace Mine
set_option maxRecDepth 100000
set_option maxHeartbeats 8000000
variable {w : World} {p : Program} {loose : List Str} {mean : ExcName → Option Value} {mg mb : Str → Option Value} {qual : Str} {body : List Stmt} {scope : Scope} {g base : Heap} {L sc fa : Addr} {vs : List Value} {ns : List Int}
theorem in3 (c : LawCtx w p loose mean mg mb qual body scope g base L sc vs ns) {s : Shared} {Q : Flow → Shared → Prop} {E : Value → Shared → Prop} {o1 o2 o3 o4 o5 o6 o7 o8 o9 : Obj} {u : Str → Option Value} {chs : List (List Nat)} {cs ts : List Addr} {cl tyl : Addr} {n1 n2 : Nat} {wl : List (Addr × Obj)} (W : LawW chs cs ts cl tyl n1 n2 wl L) {al vl ow fl td : Addr} {ya yv yf : List Value} {n3 n4 n5 nt : Nat} {fits : Bool} {k1 k2 : Addr} {tps : List Addr} {l : List Nat} (T : LawT L td fl vl al cl tyl wl) {k3 sl : Addr} {ys : List Value} {n6 : Nat} {st : List Nat} (hys : NatsAre ys st) (d7 : cdat o7 (some (.ref sl)))
    (F : Fr g L s.heap (fun y => if y = Str.ofString "own" then some (.ref ow) else if y = Str.ofString "fits" then some (.bool fits) else u y)) (N : News g L s.heap ((L + 1 + 1 + 1 + 1 + 1 + 1 + 1 + 1 + 1, o9) :: (L + 1 + 1 + 1 + 1 + 1 + 1 + 1 + 1, o8) :: (L + 1 + 1 + 1 + 1 + 1 + 1 + 1, o7) :: (L + 1 + 1 + 1 + 1 + 1 + 1, o6) :: (L + 1 + 1 + 1 + 1 + 1, o5) :: (L + 1 + 1 + 1 + 1, o4) :: (L + 1 + 1 + 1, o3) :: (L + 1 + 1, o2) :: (L + 1, o1) :: (652, tabObj (((#[] ++ #[rawInt ((403 : Nat) : Int), rawInt ((45 : Nat) : Int), Value.ref k1]) ++ #[rawInt ((404 : Nat) : Int), rawInt ((46 : Nat) : Int), Value.ref k2]) ++ #[rawInt ((416 : Nat) : Int), rawInt ((43 : Nat) : Int), Value.ref k3])) :: (td, listOf (tps.map Value.ref).toArray nt) :: (fl, listOf yf.toArray n5) :: (vl, listOf yv.toArray n4) :: (al, listOf ya.toArray n3) :: (cl, listOf (cs.map Value.ref).toArray n1) :: (tyl, listOf (ts.map Value.ref).toArray n2) :: (sl, listOf ys.toArray n6) :: wl))
    (nextA : ∀ h' tk, st = [] → Fr g L h' (fun y => if y = Str.ofString "own" then some (.ref ow) else if y = Str.ofString "fits" then some (.bool fits) else u y) → News g L h' ((L + 1 + 1 + 1 + 1 + 1 + 1 + 1 + 1 + 1, o9) :: (L + 1 + 1 + 1 + 1 + 1 + 1 + 1 + 1, o8) :: (L + 1 + 1 + 1 + 1 + 1 + 1 + 1, o7) :: (L + 1 + 1 + 1 + 1 + 1 + 1, o6) :: (L + 1 + 1 + 1 + 1 + 1, o5) :: (L + 1 + 1 + 1 + 1, o4) :: (L + 1 + 1 + 1, o3) :: (L + 1 + 1, o2) :: (L + 1, o1) :: (652, tabObj (((#[] ++ #[rawInt ((403 : Nat) : Int), rawInt ((45 : Nat) : Int), Value.ref k1]) ++ #[rawInt ((404 : Nat) : Int), rawInt ((46 : Nat) : Int), Value.ref k2]) ++ #[rawInt ((416 : Nat) : Int), rawInt ((43 : Nat) : Int), Value.ref k3])) :: (td, listOf (tps.map Value.ref).toArray nt) :: (fl, listOf yf.toArray n5) :: (vl, listOf yv.toArray n4) :: (al, listOf ya.toArray n3) :: (cl, listOf (cs.map Value.ref).toArray n1) :: (tyl, listOf (ts.map Value.ref).toArray n2) :: (sl, listOf ys.toArray n6) :: wl) → Q .next { s with heap := h', toks := tk })
    (nextB : ∀ h' tk (Q2 : Flow → Shared → Prop), (∀ s', Q .next s' → Q2 .next s') → st ≠ [] → Fr g L h' (fun y => if y = Str.ofString "own" then some (.ref ow) else if y = Str.ofString "fits" then some (.bool fits) else u y) → News g L h' ((L + 1 + 1 + 1 + 1 + 1 + 1 + 1 + 1 + 1, o9) :: (L + 1 + 1 + 1 + 1 + 1 + 1 + 1 + 1, o8) :: (L + 1 + 1 + 1 + 1 + 1 + 1 + 1, o7) :: (L + 1 + 1 + 1 + 1 + 1 + 1, o6) :: (L + 1 + 1 + 1 + 1 + 1, o5) :: (L + 1 + 1 + 1 + 1, o4) :: (L + 1 + 1 + 1, o3) :: (L + 1 + 1, o2) :: (L + 1, o1) :: (652, tabObj (((#[] ++ #[rawInt ((403 : Nat) : Int), rawInt ((45 : Nat) : Int), Value.ref k1]) ++ #[rawInt ((404 : Nat) : Int), rawInt ((46 : Nat) : Int), Value.ref k2]) ++ #[rawInt ((416 : Nat) : Int), rawInt ((43 : Nat) : Int), Value.ref k3])) :: (td, listOf (tps.map Value.ref).toArray nt) :: (fl, listOf yf.toArray n5) :: (vl, listOf yv.toArray n4) :: (al, listOf ya.toArray n3) :: (cl, listOf (cs.map Value.ref).toArray n1) :: (tyl, listOf (ts.map Value.ref).toArray n2) :: (sl, listOf ys.toArray n6) :: wl) →
      wpAny (model PG w) (callerA.deeper (lawEnv qual scope L fa)) (execs (ifBody ((ifBody (body.drop 15)).drop 3)) (lawEnv qual scope L fa)) Q2 E { s with heap := h', toks := tk }) :
    wpAny (model PG w) (callerA.deeper (lawEnv qual scope L fa)) (execs ((ifBody (body.drop 15)).drop 3) (lawEnv qual scope L fa)) Q E s := by
  obtain ⟨hf, K, X, TP, hl, hI, hlen, hC⟩ := c
  obtain ⟨name, params, dV, kV, doc, pm, an, cdv, ct, oc, od, osl, hf⟩ := hf
  have hf2 : (hd.heap_39 w.params).lookup 655 = some ⟨_, _, .func (fnOf _ _ _ _ _ _ _ _ _ _ _ _), _⟩ := rfl
  rw [hf2] at hf
  cases hf
  clear hf2
  dsimp only [List.drop, ifBody]
  repeat ((fail_if_success (with_reducible show (if _ then (_ : Prop) else (_ : Prop)))); (first | (k_unfold; (try dsimp only)) | walk1 | (dsimp only; walk1)))
  by_cases hs : st = []
  · refine PySem.W.ite_neg (by simp [hs]) ?_
    repeat (first | (refine PySem.W.ite_neg not_false ?_) | (refine PySem.W.ite_neg Bool.false_ne_true ?_) | (refine PySem.W.ite_pos trivial ?_) | ((with_reducible show wpAny _ _ _ _ _ _); (first | (k_unfold; (try dsimp only)) | walk1 | (dsimp only; walk1))) | dsimp only)
    exact nextA _ _ hs (by assumption) (by first | assumption | exact news_drop1 (by assumption) | exact news_drop1 (news_drop1 (by assumption)) | exact news_drop1 (news_drop1 (news_drop1 (by assumption))) | exact news_drop1 (news_drop1 (news_drop1 (news_drop1 (by assumption)))))
  · refine PySem.W.ite_pos (by simp [hs]) ?_
    refine nextB _ _ _ ?_ hs (by assumption) (by first | assumption | exact news_drop1 (by assumption) | exact news_drop1 (news_drop1 (by assumption)) | exact news_drop1 (news_drop1 (news_drop1 (by assumption))) | exact news_drop1 (news_drop1 (news_drop1 (news_drop1 (by assumption)))))
    intro s' h
    exact wpAny_execs_nil h
theorem st15 (c : LawCtx w p loose mean mg mb qual body scope g base L sc vs ns) {s : Shared} {Q : Flow → Shared → Prop} {E : Value → Shared → Prop} {o1 o2 o3 o4 o5 o6 o7 o8 o9 : Obj} {u : Str → Option Value} {chs : List (List Nat)} {cs ts : List Addr} {cl tyl : Addr} {n1 n2 : Nat} {wl : List (Addr × Obj)} (W : LawW chs cs ts cl tyl n1 n2 wl L) {al vl ow fl td : Addr} {ya yv yf : List Value} {n3 n4 n5 nt bd : Nat} {tb : Tok} {gv k1 k2 : Addr} {pv : Value} {tps : List Addr} {due : Nat} {t2 : Tok} {fits : Bool} {l : List Nat} (hyl : NatsAre yv l) (d5 : cdat o5 (some (.ref vl)))
    (F : Fr g L s.heap (fun y => if y = Str.ofString "due" then some (.int (due : Nat) t2) else if y = Str.ofString "fits" then some (.bool fits) else if y = Str.ofString "passed" then some pv else if y = Str.ofString "given" then some (.ref gv) else if y = Str.ofString "own" then some (.ref ow) else if y = Str.ofString "bound" then some (.int (bd : Nat) tb) else u y)) (N : News g L s.heap ((L + 1 + 1 + 1 + 1 + 1 + 1 + 1 + 1 + 1, o9) :: (L + 1 + 1 + 1 + 1 + 1 + 1 + 1 + 1, o8) :: (L + 1 + 1 + 1 + 1 + 1 + 1 + 1, o7) :: (L + 1 + 1 + 1 + 1 + 1 + 1, o6) :: (L + 1 + 1 + 1 + 1 + 1, o5) :: (L + 1 + 1 + 1 + 1, o4) :: (L + 1 + 1 + 1, o3) :: (L + 1 + 1, o2) :: (L + 1, o1) :: (652, tabObj ((#[] ++ #[rawInt ((403 : Nat) : Int), rawInt ((45 : Nat) : Int), Value.ref k1]) ++ #[rawInt ((404 : Nat) : Int), rawInt ((46 : Nat) : Int), Value.ref k2])) :: (td, listOf (tps.map Value.ref).toArray nt) :: (fl, listOf yf.toArray n5) :: (vl, listOf yv.toArray n4) :: (al, listOf ya.toArray n3) :: (cl, listOf (cs.map Value.ref).toArray n1) :: (tyl, listOf (ts.map Value.ref).toArray n2) :: wl))
    (nextA : ∀ h' tk, l = [] → Fr g L h' (fun y => if y = Str.ofString "due" then some (.int (due : Nat) t2) else if y = Str.ofString "fits" then some (.bool fits) else if y = Str.ofString "passed" then some pv else if y = Str.ofString "given" then some (.ref gv) else if y = Str.ofString "own" then some (.ref ow) else if y = Str.ofString "bound" then some (.int (bd : Nat) tb) else u y) → News g L h' ((L + 1 + 1 + 1 + 1 + 1 + 1 + 1 + 1 + 1, o9) :: (L + 1 + 1 + 1 + 1 + 1 + 1 + 1 + 1, o8) :: (L + 1 + 1 + 1 + 1 + 1 + 1 + 1, o7) :: (L + 1 + 1 + 1 + 1 + 1 + 1, o6) :: (L + 1 + 1 + 1 + 1 + 1, o5) :: (L + 1 + 1 + 1 + 1, o4) :: (L + 1 + 1 + 1, o3) :: (L + 1 + 1, o2) :: (L + 1, o1) :: (652, tabObj ((#[] ++ #[rawInt ((403 : Nat) : Int), rawInt ((45 : Nat) : Int), Value.ref k1]) ++ #[rawInt ((404 : Nat) : Int), rawInt ((46 : Nat) : Int), Value.ref k2])) :: (td, listOf (tps.map Value.ref).toArray nt) :: (fl, listOf yf.toArray n5) :: (vl, listOf yv.toArray n4) :: (al, listOf ya.toArray n3) :: (cl, listOf (cs.map Value.ref).toArray n1) :: (tyl, listOf (ts.map Value.ref).toArray n2) :: wl) → wpAny (model PG w) (callerA.deeper (lawEnv qual scope L fa)) (execs (body.drop 16) (lawEnv qual scope L fa)) Q E { s with heap := h', toks := tk })
    (nextB : ∀ h' tk (Q2 : Flow → Shared → Prop), (∀ s', wpAny (model PG w) (callerA.deeper (lawEnv qual scope L fa)) (execs (body.drop 16) (lawEnv qual scope L fa)) Q E s' → Q2 .next s') → l ≠ [] → Fr g L h' (fun y => if y = Str.ofString "due" then some (.int (due : Nat) t2) else if y = Str.ofString "fits" then some (.bool fits) else if y = Str.ofString "passed" then some pv else if y = Str.ofString "given" then some (.ref gv) else if y = Str.ofString "own" then some (.ref ow) else if y = Str.ofString "bound" then some (.int (bd : Nat) tb) else u y) → News g L h' ((L + 1 + 1 + 1 + 1 + 1 + 1 + 1 + 1 + 1, o9) :: (L + 1 + 1 + 1 + 1 + 1 + 1 + 1 + 1, o8) :: (L + 1 + 1 + 1 + 1 + 1 + 1 + 1, o7) :: (L + 1 + 1 + 1 + 1 + 1 + 1, o6) :: (L + 1 + 1 + 1 + 1 + 1, o5) :: (L + 1 + 1 + 1 + 1, o4) :: (L + 1 + 1 + 1, o3) :: (L + 1 + 1, o2) :: (L + 1, o1) :: (652, tabObj ((#[] ++ #[rawInt ((403 : Nat) : Int), rawInt ((45 : Nat) : Int), Value.ref k1]) ++ #[rawInt ((404 : Nat) : Int), rawInt ((46 : Nat) : Int), Value.ref k2])) :: (td, listOf (tps.map Value.ref).toArray nt) :: (fl, listOf yf.toArray n5) :: (vl, listOf yv.toArray n4) :: (al, listOf ya.toArray n3) :: (cl, listOf (cs.map Value.ref).toArray n1) :: (tyl, listOf (ts.map Value.ref).toArray n2) :: wl) →
      wpAny (model PG w) (callerA.deeper (lawEnv qual scope L fa)) (execs (ifBody (body.drop 15)) (lawEnv qual scope L fa)) Q2 E { s with heap := h', toks := tk }) :
    wpAny (model PG w) (callerA.deeper (lawEnv qual scope L fa)) (execs (body.drop 15) (lawEnv qual scope L fa)) Q E s := by
  obtain ⟨hf, K, X, TP, hl, hI, hlen, hC⟩ := c
  obtain ⟨name, params, dV, kV, doc, pm, an, cdv, ct, oc, od, osl, hf⟩ := hf
  have hf2 : (hd.heap_39 w.params).lookup 655 = some ⟨_, _, .func (fnOf _ _ _ _ _ _ _ _ _ _ _ _), _⟩ := rfl
  rw [hf2] at hf
  cases hf
  clear hf2
  dsimp only [List.drop, ifBody]
  repeat ((fail_if_success (with_reducible show (if _ then (_ : Prop) else (_ : Prop)))); (first | (k_unfold; (try dsimp only)) | walk1 | (dsimp only; walk1)))
  by_cases hs : l = []
  · refine PySem.W.ite_neg (by simp [hs]) ?_
    repeat ((fail_if_success (with_reducible show wpAny _ _ (execs (_ :: _) _) _ _ _)); (first | (k_unfold; (try dsimp only)) | walk1 | dsimp only))
    exact nextA _ _ hs (by assumption) (by first | assumption | exact news_drop1 (by assumption) | exact news_drop1 (news_drop1 (by assumption)) | exact news_drop1 (news_drop1 (news_drop1 (by assumption))) | exact news_drop1 (news_drop1 (news_drop1 (news_drop1 (by assumption)))))
  · refine PySem.W.ite_pos (by simp [hs]) ?_
    refine nextB _ _ _ ?_ hs (by assumption) (by first | assumption | exact news_drop1 (by assumption) | exact news_drop1 (news_drop1 (by assumption)) | exact news_drop1 (news_drop1 (news_drop1 (by assumption))) | exact news_drop1 (news_drop1 (news_drop1 (news_drop1 (by assumption)))))
    intro s' h
    exact h
theorem st16 (c : LawCtx w p loose mean mg mb qual body scope g base L sc vs ns) {s : Shared} {Q : Flow → Shared → Prop} {E : Value → Shared → Prop} {o1 o2 o3 o4 o5 o6 o7 o8 o9 : Obj} {u : Str → Option Value} {chs : List (List Nat)} {cs ts : List Addr} {cl tyl : Addr} {n1 n2 : Nat} {wl : List (Addr × Obj)} (W : LawW chs cs ts cl tyl n1 n2 wl L) {al vl fl td : Addr} {ya yv yf : List Value} {n3 n4 n5 nt : Nat} {tps : List Addr} {fits : Bool} {ps : Array Value} (hft : fits = tps.isEmpty) (htl : tps.length ≤ 1) (d9 : cdat o9 (some (.ref td)))
    (F : Fr g L s.heap (fun y => if y = Str.ofString "fits" then some (.bool fits) else u y)) (N : News g L s.heap ((L + 1 + 1 + 1 + 1 + 1 + 1 + 1 + 1 + 1, o9) :: (L + 1 + 1 + 1 + 1 + 1 + 1 + 1 + 1, o8) :: (L + 1 + 1 + 1 + 1 + 1 + 1 + 1, o7) :: (L + 1 + 1 + 1 + 1 + 1 + 1, o6) :: (L + 1 + 1 + 1 + 1 + 1, o5) :: (L + 1 + 1 + 1 + 1, o4) :: (L + 1 + 1 + 1, o3) :: (L + 1 + 1, o2) :: (L + 1, o1) :: (652, tabObj ps) :: (td, listOf (tps.map Value.ref).toArray nt) :: (fl, listOf yf.toArray n5) :: (vl, listOf yv.toArray n4) :: (al, listOf ya.toArray n3) :: (cl, listOf (cs.map Value.ref).toArray n1) :: (tyl, listOf (ts.map Value.ref).toArray n2) :: wl))
    (next : ∀ h' tk m, Fr g L h' m → News g L h' ((L + 1 + 1 + 1 + 1 + 1 + 1 + 1 + 1 + 1, o9) :: (L + 1 + 1 + 1 + 1 + 1 + 1 + 1 + 1, o8) :: (L + 1 + 1 + 1 + 1 + 1 + 1 + 1, o7) :: (L + 1 + 1 + 1 + 1 + 1 + 1, o6) :: (L + 1 + 1 + 1 + 1 + 1, o5) :: (L + 1 + 1 + 1 + 1, o4) :: (L + 1 + 1 + 1, o3) :: (L + 1 + 1, o2) :: (L + 1, o1) :: (652, tabObj ps) :: (td, listOf (tps.map Value.ref).toArray nt) :: (fl, listOf yf.toArray n5) :: (vl, listOf yv.toArray n4) :: (al, listOf ya.toArray n3) :: (cl, listOf (cs.map Value.ref).toArray n1) :: (tyl, listOf (ts.map Value.ref).toArray n2) :: wl) → Q (.ret (.bool true)) { s with heap := h', toks := tk }) :
    wpAny (model PG w) (callerA.deeper (lawEnv qual scope L fa)) (execs (body.drop 16) (lawEnv qual scope L fa)) Q E s := by
  obtain ⟨hf, K, X, TP, hl, hI, hlen, hC⟩ := c
  obtain ⟨name, params, dV, kV, doc, pm, an, cdv, ct, oc, od, osl, hf⟩ := hf
  have hf2 : (hd.heap_39 w.params).lookup 655 = some ⟨_, _, .func (fnOf _ _ _ _ _ _ _ _ _ _ _ _), _⟩ := rfl
  rw [hf2] at hf
  cases hf
  clear hf2
  dsimp only [List.drop, ifBody]
  repeat ((fail_if_success (with_reducible show wpAny _ _ (call (Value.builtin _) _) _ _ _)); (first | (k_unfold; (try dsimp only)) | walk1 | (dsimp only; walk1)))
  k_dflt (refine len_at tps.length (News.isList (by k_asm) (by k_mem)) (by simp) (by omega) ?_)
  repeat ((fail_if_success (with_reducible show (if _ then (_ : Prop) else (_ : Prop)))); (first | (k_unfold; (try dsimp only)) | walk1 | (dsimp only; walk1)))
  rcases tps with _ | ⟨tp, _ | ⟨_, _⟩⟩
  · obtain rfl : fits = true := hft
    refine PySem.W.ite_pos rfl ?_
    repeat (first | (refine PySem.W.ite_neg not_false ?_) | (refine PySem.W.ite_neg Bool.false_ne_true ?_) | (refine PySem.W.ite_pos trivial ?_) | ((with_reducible show wpAny _ _ _ _ _ _); (first | (k_unfold; (try dsimp only)) | walk1 | (dsimp only; walk1))) | dsimp only)
    exact next _ _ _ (by assumption) (by assumption)
  · obtain rfl : fits = false := hft
    refine PySem.W.ite_neg Bool.false_ne_true ?_
    repeat (first | (refine PySem.W.ite_neg not_false ?_) | (refine PySem.W.ite_neg Bool.false_ne_true ?_) | (refine PySem.W.ite_pos trivial ?_) | ((with_reducible show wpAny _ _ _ _ _ _); (first | (k_unfold; (try dsimp only)) | walk1 | (dsimp only; walk1))) | dsimp only)
    exact next _ _ _ (by assumption) (by assumption)
  · exact absurd htl (by simp)
end Mine

namespace Mine
theorem news_dup {h H : Heap} {L : Addr} {x : Addr × Obj} {P wl : List (Addr × Obj)} (N : News h L H (P ++ wl)) (hx : x ∈ wl) : News h L H (P ++ x :: wl) := fun p hp => N p (by
  simp only [List.mem_append, List.mem_cons] at hp ⊢
  rcases hp with h | rfl | h
  · exact .inl h
  · exact .inr hx
  · exact .inr h)
theorem la_contains {n k : Nat} {p : Nat → Bool} (hk : k < n) : ((List.range n).filter p).contains k = p k := by
  rw [Bool.eq_iff_iff, List.contains_iff_mem, List.mem_filter, List.mem_range]
  exact ⟨fun h => h.2, fun h => ⟨hk, h⟩⟩
theorem any_sub {chs : List (List Nat)} (g : Good chs) (h7 : chs.length ≤ 7) (i : Nat) {k : Nat} (hk : k < chs.length) : ((chs.getD i []).any (· == k)) = sub chs i k := by
  rw [g.sub_eq h7 i hk, Bool.eq_iff_iff, List.any_eq_true, List.contains_iff_mem]
  constructor
  · rintro ⟨x, hx, e⟩
    rw [← beq_iff_eq.mp e]; exact hx
  · intro h
    exact ⟨k, h, by simp⟩
theorem okN_lt {chs : List (List Nat)} (g : Good chs) (h7 : chs.length ≤ 7) {one bd : Nat} {l : List Nat} (hone : one < chs.length) (hlt : ∀ k ∈ l, k < chs.length) : (okN chs one bd l).getD one < chs.length := by
  unfold okN
  split
  · split <;> exact hone
  · cases e : l.filter fun k => sub chs one k with
    | nil => exact hone
    | cons f0 fr =>
      show pick chs f0 fr < chs.length
      refine pick_mem (P := fun k => k < chs.length) ?_ ?_
      · exact hlt f0 (List.mem_filter.mp (show f0 ∈ l.filter fun k => sub chs one k by rw [e]; exact .head _)).1
      · exact fun k hk => hlt k (List.mem_filter.mp (show k ∈ l.filter fun k => sub chs one k by rw [e]; exact .tail _ hk)).1
theorem lawT_of {chs : List (List Nat)} {cs ts : List Addr} {cl tyl : Addr} {n1 n2 : Nat} {wl : List (Addr × Obj)} {L td fl vl al : Addr} {ya yv yf : List Value} {n3 n4 n5 : Nat} (W : LawW chs cs ts cl tyl n1 n2 wl L) (hal : ∀ a ∈ ([L + 1 + 1 + 1 + 1 + 1 + 1 + 1 + 1 + 1, L + 1 + 1 + 1 + 1 + 1 + 1 + 1 + 1, L + 1 + 1 + 1 + 1 + 1 + 1 + 1, L + 1 + 1 + 1 + 1 + 1 + 1, L + 1 + 1 + 1 + 1 + 1, L + 1 + 1 + 1 + 1, L + 1 + 1 + 1, L + 1 + 1, L + 1, 652] : List Addr), al ≠ a) (hfl : ∀ a ∈ ([L + 1 + 1 + 1 + 1 + 1 + 1 + 1 + 1 + 1, L + 1 + 1 + 1 + 1 + 1 + 1 + 1 + 1, L + 1 + 1 + 1 + 1 + 1 + 1 + 1, L + 1 + 1 + 1 + 1 + 1 + 1, L + 1 + 1 + 1 + 1 + 1, L + 1 + 1 + 1 + 1, L + 1 + 1 + 1, L + 1 + 1, L + 1, 652] : List Addr), fl ≠ a) (hvl : ∀ a ∈ ([L + 1 + 1 + 1 + 1 + 1 + 1 + 1 + 1 + 1, L + 1 + 1 + 1 + 1 + 1 + 1 + 1 + 1, L + 1 + 1 + 1 + 1 + 1 + 1 + 1, L + 1 + 1 + 1 + 1 + 1 + 1, L + 1 + 1 + 1 + 1 + 1, L + 1 + 1 + 1 + 1, L + 1 + 1 + 1, L + 1 + 1, L + 1, 652] : List Addr), @LT.lt Nat _ a vl)
    (h1 : ∀ a ∈ ([L + 1 + 1 + 1 + 1 + 1 + 1 + 1 + 1 + 1, L + 1 + 1 + 1 + 1 + 1 + 1 + 1 + 1, L + 1 + 1 + 1 + 1 + 1 + 1 + 1, L + 1 + 1 + 1 + 1 + 1 + 1, L + 1 + 1 + 1 + 1 + 1, L + 1 + 1 + 1 + 1, L + 1 + 1 + 1, L + 1 + 1, L + 1, 652] : List Addr), @LT.lt Nat _ a td) (h2 : ∀ p ∈ (fl, listOf yf.toArray n5) :: (vl, listOf yv.toArray n4) :: (al, listOf ya.toArray n3) :: (cl, listOf (cs.map Value.ref).toArray n1) :: (tyl, listOf (ts.map Value.ref).toArray n2) :: wl, @LT.lt Nat _ p.1 td) : LawT L td fl vl al cl tyl wl where
  ctd := h1
  otd := List.forall_mem_cons.mpr ⟨Nat.ne_of_lt (h2 _ (.head _)), List.forall_mem_cons.mpr ⟨Nat.ne_of_lt (h2 _ (.tail _ (.head _))), List.forall_mem_cons.mpr ⟨Nat.ne_of_lt (h2 _ (.tail _ (.tail _ (.head _)))), List.forall_mem_cons.mpr ⟨Nat.ne_of_lt (h2 _ (.tail _ (.tail _ (.tail _ (.head _))))), List.forall_mem_cons.mpr ⟨Nat.ne_of_lt (h2 _ (.tail _ (.tail _ (.tail _ (.tail _ (.head _)))))), fun _ h => nomatch h⟩⟩⟩⟩⟩
  wtd := fun q hq => Nat.ne_of_lt (h2 q (.tail _ (.tail _ (.tail _ (.tail _ (.tail _ hq))))))
  oc := List.forall_mem_cons.mpr ⟨hfl, List.forall_mem_cons.mpr ⟨fun a ha => Nat.ne_of_gt (hvl a ha), List.forall_mem_cons.mpr ⟨hal, List.forall_mem_cons.mpr ⟨fun a ha => W.hof a ha _ (.head _), List.forall_mem_cons.mpr ⟨fun a ha => W.hof a ha _ (.tail _ (.head _)), fun _ h => nomatch h⟩⟩⟩⟩⟩
  wc := fun a ha q hq => W.hof a ha q (.tail _ (.tail _ hq))
set_option maxRecDepth 100000
set_option maxHeartbeats 8000000
variable {w : World} {p : Program} {loose : List Str} {mean : ExcName → Option Value} {mg mb : Str → Option Value} {qual : Str} {body : List Stmt} {scope : Scope} {g base : Heap} {L sc fa : Addr} {vs : List Value} {ns : List Int}
theorem law_end (c : LawCtx w p loose mean mg mb qual body scope g base L sc vs ns) {s : Shared} {Q : Flow → Shared → Prop} {E : Value → Shared → Prop} {o1 o2 o3 o4 o5 o6 o7 o8 o9 : Obj} {u : Str → Option Value} {chs : List (List Nat)} {cs ts : List Addr} {cl tyl : Addr} {n1 n2 : Nat} {wl : List (Addr × Obj)} (W : LawW chs cs ts cl tyl n1 n2 wl L) {al vl ow fl td : Addr} {ya yv yf : List Value} {n3 n4 n5 nt : Nat} {fits : Bool} {k1 k2 : Addr} {tps : List Addr} {l : List Nat} (T : LawT L td fl vl al cl tyl wl) {ot ub : Addr} {k3 : Addr} {v7 v8 : Option Value} (hne : l ≠ []) (hyl : NatsAre yv l) (hlt : ∀ k ∈ l, k < chs.length) (hll : l.length ≤ 4) (htl : tps.length ≤ 1)
    (htv : ∀ At : Addr → Obj → Prop, (∀ q ∈ wl, At q.1 q.2) → TvAt At ow (Str.ofString "T") (tyL ts l) ub)
    (d1 : cdat o1 (some (.ref cl))) (d3 : cdat o3 (some (.ref tyl))) (d5 : cdat o5 (some (.ref vl))) (d7 : cdat o7 v7) (d8 : cdat o8 v8) (d9 : cdat o9 (some (.ref td)))
    (F : Fr g L s.heap (fun y => if y = Str.ofString "own" then some (.ref ow) else if y = Str.ofString "fits" then some (.bool fits) else u y)) (N : News g L s.heap ((L + 1 + 1 + 1 + 1 + 1 + 1 + 1 + 1 + 1, o9) :: (L + 1 + 1 + 1 + 1 + 1 + 1 + 1 + 1, o8) :: (L + 1 + 1 + 1 + 1 + 1 + 1 + 1, o7) :: (L + 1 + 1 + 1 + 1 + 1 + 1, o6) :: (L + 1 + 1 + 1 + 1 + 1, o5) :: (L + 1 + 1 + 1 + 1, o4) :: (L + 1 + 1 + 1, o3) :: (L + 1 + 1, o2) :: (L + 1, o1) :: (652, tabObj (((#[] ++ #[rawInt ((403 : Nat) : Int), rawInt ((45 : Nat) : Int), Value.ref k1]) ++ #[rawInt ((404 : Nat) : Int), rawInt ((46 : Nat) : Int), Value.ref k2]) ++ #[rawInt ((416 : Nat) : Int), rawInt ((43 : Nat) : Int), Value.ref k3])) :: (td, listOf (tps.map Value.ref).toArray nt) :: (fl, listOf yf.toArray n5) :: (vl, listOf yv.toArray n4) :: (al, listOf ya.toArray n3) :: (cl, listOf (cs.map Value.ref).toArray n1) :: (tyl, listOf (ts.map Value.ref).toArray n2) :: wl))
    (hE : PassesOwn (model PG w) (callerA.deeper (lawEnv qual scope L fa)) (lawEnv qual scope L fa) E)
    (fin : ∀ h' tk o7 o8 ps nt wl (u : Str → Option Value), LawW chs cs ts cl tyl n1 n2 wl L → Fr g L h' (fun y => if y = Str.ofString "fits" then some (.bool fits) else u y) → News g L h' ((L + 1 + 1 + 1 + 1 + 1 + 1 + 1 + 1 + 1, o9) :: (L + 1 + 1 + 1 + 1 + 1 + 1 + 1 + 1, o8) :: (L + 1 + 1 + 1 + 1 + 1 + 1 + 1, o7) :: (L + 1 + 1 + 1 + 1 + 1 + 1, o6) :: (L + 1 + 1 + 1 + 1 + 1, o5) :: (L + 1 + 1 + 1 + 1, o4) :: (L + 1 + 1 + 1, o3) :: (L + 1 + 1, o2) :: (L + 1, o1) :: (652, tabObj ps) :: (td, listOf (tps.map Value.ref).toArray nt) :: (fl, listOf yf.toArray n5) :: (vl, listOf yv.toArray n4) :: (al, listOf ya.toArray n3) :: (cl, listOf (cs.map Value.ref).toArray n1) :: (tyl, listOf (ts.map Value.ref).toArray n2) :: wl) → Q .next { s with heap := h', toks := tk }) :
    wpAny (model PG w) (callerA.deeper (lawEnv qual scope L fa)) (execs ((ifBody (body.drop 15)).drop 2) (lawEnv qual scope L fa)) Q E s := by
  have hgd := W.hgd
  have hlc := W.hlc
  refine in2 c W T hyl d1 d5 d7 F N ?_
  intro h1 tk1 o7 sl ys n6 hys d7 W1 T1 F1 N1
  refine in3 (l := l) c W T hys d7 F1 N1 ?_ ?_
  · intro h2 tk2 hst F2 N2
    exact fin _ _ _ _ _ _ _ _ W1 (fr_fits (x := Str.ofString "fits") (v := some (.bool fits)) F2 rfl) N2
  · intro h2 tk2 Q2 hQ2 hst F2 N2
    obtain ⟨init, i0, hst'⟩ : ∃ init i0, ((List.range chs.length).filter fun k => !l.contains k) = init ++ [i0] := ⟨_, _, (List.dropLast_concat_getLast hst).symm⟩
    have him : i0 ∈ (List.range chs.length).filter fun k => !l.contains k := by rw [hst']; exact List.mem_append_right _ (.head _)
    have hi0 : i0 < chs.length := List.mem_range.mp (List.mem_filter.mp him).1
    have hil : i0 ∉ l := by simpa using (List.mem_filter.mp him).2
    rw [hst'] at hys
    obtain ⟨yi, t0, rfl⟩ := nats_last hys
    refine jn0 (l := l) c W1 T1 hi0 d3 d7 F2 N2 ?_
    intro h3 tk3 ot tl W3 T3 htU F3 N3
    refine jn1 c W3 T3 hi0 hyl hlt hll d1 d5 d7 d8 F3 N3 ?_
    intro h4 tk4 o8 ov yo n7 hyo d8 W4 T4 F4 N4
    refine jn2 (l := l) (tb := (0 : Nat)) c W4 T4 htl d9 F4 N4 ?_
    intro h5 tk5 tb F5 N5
    refine jn3 c W4 T4 hne hlt hll htl hi0 hil (fun At hAt => ⟨htv At fun q hq => hAt q (List.mem_append_right _ hq), htU At hAt⟩) d9 F5 N5 ?_
    intro h6 tk6 k4 nt6 tl6 fd tq hcase W6 T6 F6 N6
    have hfe : (l.filter fun k => (chs.getD i0 []).any (· == k)) = l.filter fun k => sub chs i0 k := List.filter_congr fun k hk => any_sub hgd hlc i0 (hlt k hk)
    rw [← hfe] at hcase
    have hovm : (ov, listOf yo.toArray n7) ∈ tl6 ++ (sl, listOf (yi ++ [Value.int (i0 : Nat) t0]).toArray n6) :: (ov, listOf yo.toArray n7) :: (tl ++ wl) := List.mem_append_right _ (.tail _ (.head _))
    have N6' := news_dup (P := (L + 1 + 1 + 1 + 1 + 1 + 1 + 1 + 1 + 1, o9) :: (L + 1 + 1 + 1 + 1 + 1 + 1 + 1 + 1, o8) :: (L + 1 + 1 + 1 + 1 + 1 + 1 + 1, o7) :: (L + 1 + 1 + 1 + 1 + 1 + 1, o6) :: (L + 1 + 1 + 1 + 1 + 1, o5) :: (L + 1 + 1 + 1 + 1, o4) :: (L + 1 + 1 + 1, o3) :: (L + 1 + 1, o2) :: (L + 1, o1) :: (652, tabObj ((((#[] ++ #[rawInt ((403 : Nat) : Int), rawInt ((45 : Nat) : Int), Value.ref k1]) ++ #[rawInt ((404 : Nat) : Int), rawInt ((46 : Nat) : Int), Value.ref k2]) ++ #[rawInt ((416 : Nat) : Int), rawInt ((43 : Nat) : Int), Value.ref k3]) ++ #[rawInt ((423 : Nat) : Int), rawInt ((48 : Nat) : Int), Value.ref k4])) :: (td, listOf (tq.map Value.ref).toArray nt6) :: (fl, listOf yf.toArray n5) :: (vl, listOf yv.toArray n4) :: (al, listOf ya.toArray n3) :: (cl, listOf (cs.map Value.ref).toArray n1) :: (tyl, listOf (ts.map Value.ref).toArray n2) :: []) N6 hovm
    refine jn4 (l := l) (ow := ow) c W6 T6 (T6.wtd _ hovm) hyo hi0 ?_ ?_ htl hcase d1 d3 d8 d9 F6 N6' hE ?_
    · intro k hk
      obtain ⟨x, hx, e⟩ := List.any_eq_true.mp (List.mem_filter.mp hk).2
      rw [← beq_iff_eq.mp e]; exact hx
    · exact Nat.le_trans (List.length_filter_le _ _) hll
    · intro h7 tk7 nt7 u7 F7 N7
      exact hQ2 _ (fin _ _ _ _ _ nt7 _ _ W6 F7 (news_dropm (tl := (L + 1 + 1 + 1 + 1 + 1 + 1 + 1 + 1 + 1, o9) :: (L + 1 + 1 + 1 + 1 + 1 + 1 + 1 + 1, o8) :: (L + 1 + 1 + 1 + 1 + 1 + 1 + 1, o7) :: (L + 1 + 1 + 1 + 1 + 1 + 1, o6) :: (L + 1 + 1 + 1 + 1 + 1, o5) :: (L + 1 + 1 + 1 + 1, o4) :: (L + 1 + 1 + 1, o3) :: (L + 1 + 1, o2) :: (L + 1, o1) :: (652, tabObj ((((#[] ++ #[rawInt ((403 : Nat) : Int), rawInt ((45 : Nat) : Int), Value.ref k1]) ++ #[rawInt ((404 : Nat) : Int), rawInt ((46 : Nat) : Int), Value.ref k2]) ++ #[rawInt ((416 : Nat) : Int), rawInt ((43 : Nat) : Int), Value.ref k3]) ++ #[rawInt ((423 : Nat) : Int), rawInt ((48 : Nat) : Int), Value.ref k4])) :: (td, listOf (tps.map Value.ref).toArray nt7) :: (fl, listOf yf.toArray n5) :: (vl, listOf yv.toArray n4) :: (al, listOf ya.toArray n3) :: (cl, listOf (cs.map Value.ref).toArray n1) :: (tyl, listOf (ts.map Value.ref).toArray n2) :: []) N7))
end Mine

namespace Mine
set_option maxRecDepth 100000
set_option maxHeartbeats 8000000
variable {w : World} {p : Program} {loose : List Str} {mean : ExcName → Option Value} {mg mb : Str → Option Value} {qual : Str} {body : List Stmt} {scope : Scope} {g base : Heap} {L sc fa : Addr} {vs : List Value} {ns : List Int}
theorem law_all (c : LawCtx w p loose mean mg mb qual body scope g base L sc vs ns) {s : Shared} {Q : Flow → Shared → Prop} {E : Value → Shared → Prop} {o1 o2 o3 o4 o5 o6 o7 o8 o9 : Obj} {u : Str → Option Value} {v1 v2 v3 v4 v5 v6 v7 v8 v9 : Option Value}
    (h652 : @LT.lt Nat _ 652 L) (F : Fr g L s.heap (fun y => if y = Str.ofString "script" then some (.ref sc) else u y)) (N : News g L s.heap ((L + 1 + 1 + 1 + 1 + 1 + 1 + 1 + 1 + 1, o9) :: (L + 1 + 1 + 1 + 1 + 1 + 1 + 1 + 1, o8) :: (L + 1 + 1 + 1 + 1 + 1 + 1 + 1, o7) :: (L + 1 + 1 + 1 + 1 + 1 + 1, o6) :: (L + 1 + 1 + 1 + 1 + 1, o5) :: (L + 1 + 1 + 1 + 1, o4) :: (L + 1 + 1 + 1, o3) :: (L + 1 + 1, o2) :: (L + 1, o1) :: (652, tabObj #[]) :: [])) (d1 : cdat o1 v1) (d2 : cdat o2 v2) (d3 : cdat o3 v3) (d4 : cdat o4 v4) (d5 : cdat o5 v5) (d6 : cdat o6 v6) (d7 : cdat o7 v7) (d8 : cdat o8 v8) (d9 : cdat o9 v9)
    (hE : PassesOwn (model PG w) (callerA.deeper (lawEnv qual scope L fa)) (lawEnv qual scope L fa) E)
    (fin : ∀ h' tk m ps rest, Fr g L h' m → News g L h' ((652, tabObj ps) :: rest) → Q (.ret (.bool true)) { s with heap := h', toks := tk }) :
    wpAny (model PG w) (callerA.deeper (lawEnv qual scope L fa)) (execs (body.drop 0) (lawEnv qual scope L fa)) Q E s := by
  refine st0 c h652 F N d1 ?_
  intro h0 tk0 o1 chs cs cl n1 wl hgd hlc hwd d1 hof _ F N
  have hcs : cs.length = chs.length := (hwd (hAt h0) fun q hq => (N q (by simp [hq])).1).len
  refine st1 c hlc hwd d1 d3 h652 hof F N ?_
  intro h1 tk1 o3 ts tyl n2 wl hwd hts d3 hof F N
  have W : LawW chs cs ts cl tyl n1 n2 wl L := ⟨hgd, hlc, hwd, hcs, hts.trans hcs, h652, hof⟩
  refine st2 c W d1 d2 F N ?_
  intro h2 tk2 o2 one t1 hone d2 F N
  refine st3 c W hone d1 d2 d4 F N ?_
  intro h3 tk3 o4 al ya n3 hya hal d4 F N
  refine st4 c W hal d5 F N ?_
  intro h4 tk4 o5 vl hvl hvl2 d5 F N
  refine st5 c W hvl hvl2 d1 d5 F N hE ?_
  intro h5 tk5 yv l n4 u5 hyl hnd hlt hll F N
  refine st6 c W d1 F N ?_
  intro h6 tk6 bd tb u6 hbd F N
  refine st7 c W hbd hyl hlt hll d3 d5 F N ?_
  intro h7 tk7 ow wl W htv F N
  refine st8 c W hyl hya hll hal hvl d4 d5 d6 F N ?_
  intro h8 tk8 o6 fl yf n5 hyf hfl d6 F N
  refine st9 c W hal hfl hvl d9 F N ?_
  intro h9 tk9 o9 td htd1 htd2 d9 F N
  have T := lawT_of W hal hfl hvl htd1 htd2
  have hla : ∀ k, k < chs.length → ((List.range chs.length).filter fun k => (chs.getD one []).any (· == k)).contains k = sub chs one k := fun k hk => (la_contains hk).trans (any_sub hgd hlc one hk)
  have hfit : (l.filter fun k => ((List.range chs.length).filter fun k => (chs.getD one []).any (· == k)).contains k) = l.filter fun k => sub chs one k := List.filter_congr fun k hk => hla k (hlt k hk)
  rw [hfit] at hyf
  refine st10 (nt := 0) (ps := #[]) c W T hone hbd hlt hll htv d2 d3 d9 F N ?_
  intro h10 tk10 k1 wl gv tps nt W T htv hgv htl htp F N
  have htl1 : tps.length ≤ 1 := by rw [htl]; split <;> omega
  refine st11 (ps := #[]) c W T hone hbd hlt hll htv htl1 d2 d3 d9 F N ?_
  intro h11 tk11 k2 pv nt hpv F N
  refine st12 (ps := #[]) c W T hone hbd hlt hll htv hnd hyl hyf hya rfl (hla bd hbd) d1 d2 d4 d5 d6 F N ?_
  intro h12 tk12 due t2 fits hdue hfits F N
  have hdl : due < chs.length := by rw [hdue]; exact okN_lt hgd hlc hone hlt
  have hgv' : gv = ts.getD due 0 := by rw [hgv, hdue]
  have hft : fits = tps.isEmpty := by
    rw [hfits]
    cases e : okN chs one bd l with
    | some d => rw [e] at htl; have : tps = [] := List.length_eq_zero_iff.mp htl; rw [this]; rfl
    | none =>
      rw [e] at htl
      cases tps with
      | nil => cases htl
      | cons => rfl
  refine st13 (ps := #[]) c W T hone hbd hlt hll htv hdl hgv' hft htl1 htp d2 d3 d9 F N ?_
  intro h13 tk13 F N
  refine st14 c W hdl ?_ d3 F N ?_
  · rw [hpv, hfits, hdue]
    cases okN chs one bd l with
    | some d => exact .inl ⟨rfl, rfl⟩
    | none => exact .inr ⟨rfl, rfl⟩
  intro h14 tk14 F N
  refine st15 c W hyl d5 F N ?_ ?_
  · intro h15 tk15 hle F N
    refine st16 c W hft htl1 d9 (fr_fits (x := Str.ofString "fits") (v := some (.bool fits)) F rfl) N ?_
    intro h16 tk16 m F N
    exact fin _ _ _ _ _ F (fun p hp => N p (.tail _ (.tail _ (.tail _ (.tail _ (.tail _ (.tail _ (.tail _ (.tail _ (.tail _ hp))))))))))
  · intro h15 tk15 Q2 hQ2 hle F N
    have F' := fr_fits (x := Str.ofString "own") (v := some (.ref ow)) (fr_fits (x := Str.ofString "fits") (v := some (.bool fits)) F rfl) rfl
    refine in0 (l := l) c W T hyl hlt hll d3 d5 F' N ?_
    intro h16 tk16 ot tl W T htS F N
    refine in1 c W T hle hlt hll htl1 (fun At hAt => ⟨htv At fun q hq => hAt q (List.mem_append_right _ hq), htS At hAt⟩) d9 F N ?_
    intro h17 tk17 k3 nt u17 F N
    refine law_end (ot := (0 : Nat)) (k3 := k3) c W T hle hyl hlt hll htl1 (fun At hAt => htv At fun q hq => hAt q (List.mem_append_right _ hq)) d1 d3 d5 d7 d8 d9 F N hE ?_
    intro h18 tk18 o7 o8 ps nt wl u18 W F N
    refine hQ2 _ ?_
    refine st16 c W hft htl1 d9 F N ?_
    intro h19 tk19 m F N
    exact fin _ _ _ _ _ F (fun p hp => N p (.tail _ (.tail _ (.tail _ (.tail _ (.tail _ (.tail _ (.tail _ (.tail _ (.tail _ hp))))))))))
end Mine

set_option maxRecDepth 100000 in
set_option maxHeartbeats 8000000 in
theorem PySem.Challenge.cw_ft0021_01_holds : PySem.Challenge.rw_ft0021_01.Holds :=
  Mine.hd (by
  k_go0
  rename Fr _ _ _ _ => F9
  rename News _ _ _ _ => N9
  rename Below callerA _ [] _ => K9
  rename IntsAre _ _ => I9
  rename (¬ (_ : Int) < _) => L9
  have F8 := Mine.fr_fits (x := Str.ofString "script") F9 rfl
  refine Mine.law_all ⟨⟨_, _, _, _, _, _, _, _, _, _, _, _, rfl⟩, K9, by assumption, by assumption, by assumption, I9, by omega, by assumption⟩ (by assumption) F8 N9 (by assumption) (by assumption) (by assumption) (by assumption) (by assumption) (by assumption) (by assumption) (by assumption) (by assumption) ?_ ?_
  · first | passes_own | with_unfolding_all passes_own
  · intro h' tk m ps rest F N
    dsimp only
    k_steps)

